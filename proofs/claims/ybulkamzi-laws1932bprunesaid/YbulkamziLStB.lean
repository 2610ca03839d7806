import Derived.Test.YbulkamziHasB
namespace Go.Proofs.Ybulkamzi
open Go.RowKit
set_option linter.unusedVariables false
set_option linter.unusedSimpArgs false

/-- A row of one-cell elements of which the first k are known. -/
def RowQ (w : World) (b n k : Nat) (t : TypeId) (f : Nat → Value) : Prop := ∃ c, w.heap[b]? = some (.cells c t (0, 0)) ∧ c.size = n ∧ ∀ i, i < k → c[i]? = some (f i)
theorem RowQ.of_heap {w w' : World} {b n k : Nat} {t : TypeId} {f : Nat → Value} (h : RowQ w b n k t f) (e : w'.heap[b]? = w.heap[b]?) : RowQ w' b n k t f := by
  obtain ⟨c, h1, h2⟩ := h; exact ⟨c, e.trans h1, h2⟩
theorem RowQ.cell {w : World} {b n k i : Nat} {t : TypeId} {f : Nat → Value} (h : RowQ w b n k t f) (hi : i < k) : w.cell? ⟨b, i, none⟩ = some (f i) := by
  obtain ⟨c, h1, h2, h3⟩ := h; rw [cell_of_row w b i c t _ h1]; exact h3 i hi
theorem RowQ.there {w : World} {b n k i : Nat} {t : TypeId} {f : Nat → Value} (h : RowQ w b n k t f) (hi : i < n) : (∃ u, w.cell? ⟨b, i, none⟩ = some u) ∧ w.frozen? ⟨b, i, none⟩ = false := by
  obtain ⟨c, h1, h2, h3⟩ := h
  refine ⟨?_, frozen_of_row _ _ _ _ _ h1⟩
  rw [cell_of_row w b i c t _ h1]; simp [h2, hi]
theorem RowQ.step {w : World} {b n k : Nat} {t : TypeId} {f : Nat → Value} (h : RowQ w b n k t f) (hk : k < n) (v : Value) : RowQ (w.setCell ⟨b, k, none⟩ v) b n (k + 1) t (updB f k v) := by
  obtain ⟨c, h1, h2, h3⟩ := h
  refine ⟨_, heap_setCell_same _ _ _ _ _ _ h1, by simp [h2], fun i hi => ?_⟩
  rw [Array.getElem?_setIfInBounds]
  by_cases e : i = k
  · subst e; simp [h2, hk, updB_same]
  · rw [if_neg (by omega), updB_other _ _ _ _ e]; exact h3 i (by omega)
theorem RowQ.congr {w : World} {b n k : Nat} {t : TypeId} {f g : Nat → Value} (h : RowQ w b n k t f) (e : ∀ i, i < k → f i = g i) : RowQ w b n k t g := by
  obtain ⟨c, h1, h2, h3⟩ := h; exact ⟨c, h1, h2, fun i hi => by rw [h3 i hi, e i hi]⟩

theorem Tab.congr {w : World} {tb gb n : Nat} {rb rb' spot : Nat → Nat} {R : Nat → Option Nat} (h : Tab w tb gb n rb spot R) (e : ∀ p j, p < n → R p = some j → rb' j = rb j) : Tab w tb gb n rb' spot R := by
  obtain ⟨h1, ⟨c, h2, h3, h4⟩, h5⟩ := h
  refine ⟨h1, ⟨c, h2, h3, fun p hp => ?_⟩, fun p k hp hk => by rw [e p k hp hk]; exact h5 p k hp hk⟩
  obtain ⟨k1, k2⟩ := h4 p hp
  refine ⟨k1, ?_⟩
  rw [k2]
  cases hR : R p with
  | none => rfl
  | some j => unfold ptrV; simp [e p j hp hR]
theorem Tab.below {w w' : World} {tb gb n : Nat} {rb spot : Nat → Nat} {R : Nat → Option Nat} (h : Tab w tb gb n rb spot R) {B : Nat} (k : Below B w w') (h1 : tb < B) (h2 : gb < B) (h3 : ∀ p j, p < n → R p = some j → rb j < B) : Tab w' tb gb n rb spot R :=
  h.of_heap (k.block _ h1) (k.block _ h2) (fun p j hp hj => shape_of_heap (k.block _ (h3 p j hp hj)))

theorem z88 : ∃ c, Yba.zeroCells88 = c ∧ 74 ≤ c.size ∧ (∀ i, i < 31 → c[9 + i]? = some (.int .u16 0)) ∧ c[40]? = some (.int .u8 0) ∧ c[41]? = some (.int .u8 0) ∧ c[73]? = some (.int .i64 0) := by
  refine ⟨_, rfl, of_decide_eq_true (by kernel_rfl), fun i hi => ?_, by kernel_rfl, by kernel_rfl, by kernel_rfl⟩
  have h : Yba.zeroCells88.extract 9 40 = Array.replicate 31 (.int .u16 0) := by kernel_rfl
  have h2 : (Yba.zeroCells88.extract 9 40)[i]? = some (.int .u16 0) := by rw [h]; simp [hi]
  rw [Array.getElem?_extract] at h2
  split at h2
  · exact h2
  · cases h2

/-- What holds after k entries are laid. B: the heap's size at the beginning. -/
structure LSt (w wr : World) (B m n k : Nat) (rb spot kd : Nat → Nat) (ct : Nat → Bool) (ln : Nat → Option Addr) (R : Nat → Option Nat) : Prop where
  below : Below B w wr
  tab : Tab wr (B + 1) B n rb spot R
  res : ∀ j, j < k → Res wr (rb j) (lkO kd j) (ln j) (flO kd j) (tf0 ct j)
  sh : Sh wr (B + 2) (fun _ => 0) 0 0 0
  row : RowQ wr (B + 3) m k 61 (fun j => .pointer (some ⟨rb j, 0, none⟩))
  rbs : ∀ j, j < k → B + 4 ≤ rb j ∧ rb j < wr.heap.size
  rbd : ∀ j, k ≤ j → rb j = B + 3
  inj : ∀ i j, i < k → j < k → rb i = rb j → i = j
  lnc : ∀ j, j < k → (kd j = 1 → ∃ x, ln j = some x) ∧ (kd j ≠ 1 → ln j = none)
  good : ∀ f, f < n → R f = none → Good n spot f R
  mem : ∀ p j, p < n → R p = some j → j < k
  uniq : ∀ p q j, p < n → q < n → R p = some j → R q = some j → p = q
  all : ∀ j, j < k → ∃ p, p < n ∧ R p = some j
  cnt : cntB (fun p => (R p).isSome) n = k
  size : B + 4 ≤ wr.heap.size

theorem cntB_true {f : Nat → Bool} : ∀ {m : Nat}, (∀ j, j < m → f j = true) → cntB f m = m
  | 0, _ => rfl
  | m + 1, h => by simp only [cntB]; rw [cntB_true (m := m) (fun j hj => h j (by omega)), h m (by omega)]; simp

theorem LSt.free {w wr : World} {B m n k : Nat} {rb spot kd : Nat → Nat} {ct : Nat → Bool} {ln : Nat → Option Addr} {R : Nat → Option Nat} (h : LSt w wr B m n k rb spot kd ct ln R) (hk : k < n) : ∃ e, e < n ∧ R e = none := by
  apply Classical.byContradiction
  intro hc
  have : cntB (fun p => (R p).isSome) n = n := cntB_true fun j hj => by
    cases hR : R j with
    | none => exact absurd ⟨j, hj, hR⟩ hc
    | some _ => rfl
  have := h.cnt
  omega

theorem lst_start {w w1 : World} {m n : Nat} {spot kd : Nat → Nat} {ct : Nat → Bool} (hb : Below w.heap.size w w1) (hs : w1.heap.size = w.heap.size + 2) (ht : Tab w1 (w.heap.size + 1) w.heap.size n (fun _ => w.heap.size + 3) spot (fun _ => none)) :
    LSt w ((w1.alloc (.cells Yba.zeroCells88 88)).alloc (.cells (madeCells #[.pointer none] m) 61)) w.heap.size m n 0 (fun _ => w.heap.size + 3) spot kd ct (fun _ => none) (fun _ => none) := by
  have hb2 : Below w1.heap.size w1 ((w1.alloc (.cells Yba.zeroCells88 88)).alloc (.cells (madeCells #[.pointer none] m) 61)) := ((Below.refl _ w1).alloc (Nat.le_refl _) _).alloc (by simp) _
  have o1 := heap_alloc2_old w1 (.cells Yba.zeroCells88 88) (.cells (madeCells #[.pointer none] m) 61)
  have o2 := heap_alloc2_new w1 (.cells Yba.zeroCells88 88) (.cells (madeCells #[.pointer none] m) 61)
  have o3 : ((w1.alloc (.cells Yba.zeroCells88 88)).alloc (.cells (madeCells #[.pointer none] m) 61)).heap.size = w.heap.size + 4 := by simp [hs]
  rw [hs] at o1 o2
  generalize (w1.alloc (.cells Yba.zeroCells88 88)).alloc (.cells (madeCells #[.pointer none] m) 61) = w2 at *
  obtain ⟨c, hc, z1, z2, z3, z4, z5⟩ := z88
  rw [hc] at o1
  exact ⟨hb.trans (hb2.mono hb.size), ht.below hb2 (by omega) (by omega) (fun p j _ h => (by cases h)), fun j h => (by omega), ⟨c, o1, z1, z2, z3, z4, z5⟩, ⟨_, o2, size_madeCells _ _, fun i h => (by omega)⟩, fun j h => (by omega), fun _ _ => rfl, fun i j h => (by omega),
    fun j h => (by omega), fun f _ _ t _ k h => (by cases h), fun p j _ h => (by cases h), fun p q j _ _ h => (by cases h), fun j h => (by omega), cntB_false (fun _ => rfl) n, by omega⟩

theorem lst_step {w wr w5 : World} {B m n k b T : Nat} {rb spot kd : Nat → Nat} {ct : Nat → Bool} {ln : Nat → Option Addr} {R : Nat → Option Nat} {lnv : Option Addr} (h : LSt w wr B m n k rb spot kd ct ln R) (hn : Pow n) (hk : k < m)
    (h5 : Below wr.heap.size wr w5) (hb : wr.heap.size ≤ b) (hr : Res w5 b (lkO kd k) lnv (flO kd k) (tf0 ct k)) (hlc : (kd k = 1 → ∃ x, lnv = some x) ∧ (kd k ≠ 1 → lnv = none))
    (hT : T < n) (hfull : ∀ t, t < T → R (P n (spot k % n) t) ≠ none) (hemp : R (P n (spot k % n) T) = none) (hsz : wr.heap.size ≤ w5.heap.size) :
    LSt w ((putAt w5 B (P n (spot k % n) T) (some ⟨b, 0, none⟩) (spot k : Nat)).setCell ⟨B + 3, k, none⟩ (.pointer (some ⟨b, 0, none⟩))) B m n (k + 1) (updB rb k b) spot kd ct (updB ln k lnv) (updB R (P n (spot k % n) T) (some k)) := by
  obtain ⟨a1, a2, a3, a4, a5, a6, a7, a8, a9, a10, a11, a12, a13, a14, a15⟩ := h
  have hpl : P n (spot k % n) T < n := P_lt (Nat.mod_lt _ (by have := hn.pos; omega))
  have hblt : b < w5.heap.size := by
    obtain ⟨c, hc, _⟩ := hr
    rcases Nat.lt_or_ge b w5.heap.size with h' | h'
    · exact h'
    · rw [Array.getElem?_eq_none h'] at hc; cases hc
  have t5 : Tab w5 (B + 1) B n (updB rb k b) spot R := (a2.below h5 (by omega) (by omega) (fun p j hp hj => (a6 j (a11 p j hp hj)).2)).congr (fun p j hp hj => by have := a11 p j hp hj; rw [updB_other _ _ _ _ (by omega)])
  have t6 := t5.put hpl (some k) hn.even (by omega) (fun j hj => by cases hj; rw [updB_same]; exact hr.shape)
  have e6 : ptrV (updB rb k b) (some k) = some ⟨b, 0, none⟩ := by unfold ptrV; simp [updB_same]
  rw [e6] at t6
  have e6' : ((spotV spot (some k) : Nat) : Int) = ((spot k : Nat) : Int) := rfl
  rw [e6'] at t6
  have c6 : Chg (fun x => x = B) w5 (putAt w5 B (P n (spot k % n) T) (some ⟨b, 0, none⟩) (spot k : Nat)) := (Chg.refl (fun x => x = B) w5).putAt (show B = B from rfl) _ _ _
  generalize putAt w5 B (P n (spot k % n) T) (some ⟨b, 0, none⟩) (spot k : Nat) = w6 at t6 c6
  have c7 : Chg (fun x => x = B + 3) w6 (w6.setCell ⟨B + 3, k, none⟩ (.pointer (some ⟨b, 0, none⟩))) := (Chg.refl (fun x => x = B + 3) w6).setCell (show B + 3 = B + 3 from rfl) _
  have r6 : RowQ w6 (B + 3) m k 61 (fun j => .pointer (some ⟨rb j, 0, none⟩)) := (a5.of_heap (h5.block _ (by omega))).of_heap (c6.block _ (by omega))
  have r7 := r6.step hk (.pointer (some ⟨b, 0, none⟩))
  have hold : ∀ x, x < wr.heap.size → x ≠ B → x ≠ B + 3 → (w6.setCell ⟨B + 3, k, none⟩ (.pointer (some ⟨b, 0, none⟩))).heap[x]? = wr.heap[x]? := fun x h1 h2 h3 => (c7.block x h3).trans ((c6.block x h2).trans (h5.block x h1))
  have s7 : (w6.setCell ⟨B + 3, k, none⟩ (.pointer (some ⟨b, 0, none⟩))).heap.size = w5.heap.size := c7.size.trans c6.size
  have bel : Below B w (w6.setCell ⟨B + 3, k, none⟩ (.pointer (some ⟨b, 0, none⟩))) := (a1.trans (h5.mono (by omega))).trans ((c6.below (fun x hx => by omega)).trans (c7.below (B := B) (fun x hx => by omega)))
  refine ⟨bel, t6.chg c7 (by omega) (by omega), fun j hj => ?_, a4.of_heap (hold _ (by omega) (by omega) (by omega)), r7.congr fun j hj => ?_, fun j hj => ?_, fun j hj => ?_, fun i j hi hj hij => ?_, fun j hj => ?_, good_put a10 (by have := hn.pos; omega) hT hfull, fun p j hp hj => ?_, fun p q j hp hq h1 h2 => ?_, fun j hj => ?_, ?_, by omega⟩
  · by_cases e : j = k
    · subst e; rw [updB_same, updB_same]; exact (hr.of_heap (c6.block _ (by omega))).of_heap (c7.block _ (by omega))
    · rw [updB_other _ _ _ _ e, updB_other _ _ _ _ e]
      have := a6 j (by omega)
      exact (a3 j (by omega)).of_heap (hold _ (by omega) (by omega) (by omega))
  · by_cases e : j = k
    · subst e; rw [updB_same, updB_same]
    · rw [updB_other _ _ _ _ e, updB_other _ _ _ _ e]
  · by_cases e : j = k
    · subst e; rw [updB_same]; omega
    · rw [updB_other _ _ _ _ e]; have := a6 j (by omega); omega
  · rw [updB_other _ _ _ _ (by omega)]; exact a7 j (by omega)
  · by_cases ei : i = k
    · by_cases ej : j = k
      · omega
      · exfalso; rw [ei, updB_same, updB_other _ _ _ _ ej] at hij; have := a6 j (by omega); omega
    · by_cases ej : j = k
      · exfalso; rw [ej, updB_same, updB_other _ _ _ _ ei] at hij; have := a6 i (by omega); omega
      · rw [updB_other _ _ _ _ ei, updB_other _ _ _ _ ej] at hij; exact a8 i j (by omega) (by omega) hij
  · by_cases e : j = k
    · subst e; rw [updB_same]; exact hlc
    · rw [updB_other _ _ _ _ e]; exact a9 j (by omega)
  · by_cases e : p = P n (spot k % n) T
    · rw [e, updB_same] at hj; cases hj; omega
    · rw [updB_other _ _ _ _ e] at hj; have := a11 p j hp hj; omega
  · by_cases e1 : p = P n (spot k % n) T
    · by_cases e2 : q = P n (spot k % n) T
      · omega
      · rw [e1, updB_same] at h1; rw [updB_other _ _ _ _ e2] at h2; cases h1; have := a11 q k hq h2; omega
    · by_cases e2 : q = P n (spot k % n) T
      · rw [e2, updB_same] at h2; rw [updB_other _ _ _ _ e1] at h1; cases h2; have := a11 p k hp h1; omega
      · rw [updB_other _ _ _ _ e1] at h1; rw [updB_other _ _ _ _ e2] at h2; exact a12 p q j hp hq h1 h2
  · by_cases e : j = k
    · subst e; exact ⟨_, hpl, updB_same _ _ _⟩
    · obtain ⟨p, hp, hpj⟩ := a13 j (by omega)
      refine ⟨p, hp, ?_⟩
      rw [updB_other _ _ _ _ (fun e' => by rw [e', hemp] at hpj; cases hpj)]; exact hpj
  · rw [cntB_set (f := fun p => (R p).isSome) hpl (by show (R _).isSome = false; rw [hemp]; rfl) (by show (updB R _ (some k) _).isSome = true; rw [updB_same]; rfl) (fun j e => by show (updB R _ (some k) j).isSome = _; rw [updB_other _ _ _ _ e]), a14]
end Go.Proofs.Ybulkamzi
