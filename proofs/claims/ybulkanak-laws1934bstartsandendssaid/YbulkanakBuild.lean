import Derived.Test.YbulkanakPick
import Derived.Laws.Rows
import Derived.Laws.MakeOwn
import Derived.OwnWalk
namespace Go.Proofs.Ybulkanak
open Go.RowKit
set_option linter.unusedVariables false

theorem Yba.info2 : (Yba.prog.info? 2).map (fun i => (i.zero, i.size, i.bytes)) = some (some (.int .i64 0), 1, 8) := by kernel_rfl
theorem Yba.info39 : (Yba.prog.info? 39).map (fun i => (i.zero, i.size, i.bytes)) = some (some (.pointer none), 1, 8) := by kernel_rfl

/-- The starts: each period is one nanosecond longer than its number says. -/
def cumF (z : Nat → Nat) : Nat → Nat
  | 0 => 0
  | k + 1 => cumF z k + z k + 1
theorem cumF_lt {z : Nat → Nat} : ∀ {i j : Nat}, i < j → cumF z i < cumF z j
  | i, 0, h => by omega
  | i, j + 1, h => by
    show cumF z i < cumF z j + z j + 1
    rcases Nat.lt_or_ge i j with h' | h'
    · have := cumF_lt (z := z) h'; omega
    · obtain rfl : i = j := by omega
      omega
theorem cumF_le {z : Nat → Nat} {n : Nat} (hz : ∀ i, i < n → z i < 4294967296) : ∀ k, k ≤ n → cumF z k ≤ k * 4294967296
  | 0, _ => by simp [cumF]
  | k + 1, h => by
    have h1 := cumF_le hz k (by omega)
    have h2 := hz k (by omega)
    show cumF z k + z k + 1 ≤ _
    omega

/-- A row of one-cell elements of which the first k are known. -/
def RowP (w : World) (b n k : Nat) (t : TypeId) (f : Nat → Value) : Prop := ∃ c, w.heap[b]? = some (.cells c t (0, 0)) ∧ c.size = n ∧ ∀ i, i < k → c[i]? = some (f i)
theorem RowP.of_heap {w w' : World} {b n k : Nat} {t : TypeId} {f : Nat → Value} (h : RowP w b n k t f) (e : w'.heap[b]? = w.heap[b]?) : RowP w' b n k t f := by
  obtain ⟨c, h1, h2⟩ := h; exact ⟨c, e.trans h1, h2⟩
theorem RowP.cell {w : World} {b n k i : Nat} {t : TypeId} {f : Nat → Value} (h : RowP w b n k t f) (hi : i < k) : w.cell? ⟨b, i, none⟩ = some (f i) := by
  obtain ⟨c, h1, h2, h3⟩ := h; rw [cell_of_row w b i c t _ h1]; exact h3 i hi
theorem RowP.there {w : World} {b n k i : Nat} {t : TypeId} {f : Nat → Value} (h : RowP w b n k t f) (hi : i < n) : (∃ u, w.cell? ⟨b, i, none⟩ = some u) ∧ w.frozen? ⟨b, i, none⟩ = false := by
  obtain ⟨c, h1, h2, h3⟩ := h
  refine ⟨?_, frozen_of_row _ _ _ _ _ h1⟩
  rw [cell_of_row w b i c t _ h1]; simp [h2, hi]
theorem RowP.lt {w : World} {b n k : Nat} {t : TypeId} {f : Nat → Value} (h : RowP w b n k t f) : b < w.heap.size := by
  obtain ⟨c, h1, _⟩ := h
  rcases Nat.lt_or_ge b w.heap.size with h' | h'
  · exact h'
  · rw [Array.getElem?_eq_none h'] at h1; cases h1
theorem RowP.step {w : World} {b n k : Nat} {t : TypeId} {f : Nat → Value} (h : RowP w b n k t f) (hk : k < n) (v : Value) : RowP (w.setCell ⟨b, k, none⟩ v) b n (k + 1) t (fun i => if i = k then v else f i) := by
  obtain ⟨c, h1, h2, h3⟩ := h
  refine ⟨_, heap_setCell_same _ _ _ _ _ _ h1, by simp [h2], fun i hi => ?_⟩
  rw [Array.getElem?_setIfInBounds]
  by_cases e : i = k
  · subst e; simp [h2, hk]
  · rw [if_neg (by omega)]; simp only [if_neg e]; exact h3 i (by omega)
theorem RowP.congr {w : World} {b n k : Nat} {t : TypeId} {f g : Nat → Value} (h : RowP w b n k t f) (e : ∀ i, i < k → f i = g i) : RowP w b n k t g := by
  obtain ⟨c, h1, h2, h3⟩ := h; exact ⟨c, h1, h2, fun i hi => by rw [h3 i hi, e i hi]⟩

theorem TimeAt.of_heap {w w' : World} {b o d : Nat} (h : TimeAt w b o d) (e : w'.heap[b]? = w.heap[b]?) : TimeAt w' b o d := by
  obtain ⟨h1, h2, h3⟩ := h
  exact ⟨(World.cell?_of_block (w := w) (a := ⟨b, o, none⟩) e).trans h1, (World.cell?_of_block (w := w) (a := ⟨b, o + 1, none⟩) e).trans h2, (World.cell?_of_block (w := w) (a := ⟨b, o + 2, none⟩) e).trans h3⟩

/-- After k rounds. -/
structure Mid (w wr : World) (n k : Nat) (z : Nat → Nat) (pb : Nat → Nat) : Prop where
  below : Below w.heap.size w wr
  base : TimeAt wr w.heap.size 0 0
  cums : RowP wr (w.heap.size + 1) (n + 1) (k + 1) 2 (fun i => .int .i64 (cumF z i : Nat))
  ps : RowP wr (w.heap.size + 2) (n + 1) (k + 1) 39 (fun i => .pointer (some ⟨pb i, 0, none⟩))
  per : ∀ i, i ≤ k → TimeAt wr (pb i) 1 (cumF z i) ∧ w.heap.size + 3 ≤ pb i ∧ pb i < wr.heap.size

theorem mid_step {w wr w2 : World} {n k : Nat} {z pb : Nat → Nat} (h : Mid w wr n k z pb) (hk : k < n) (o : Obj) {x : Value} (hx : x = .int .i64 (cumF z (k + 1) : Nat))
    (hw : Below (wr.setCell ⟨w.heap.size + 1, k + 1, none⟩ x).drew.heap.size (wr.setCell ⟨w.heap.size + 1, k + 1, none⟩ x).drew w2)
    (ho : TimeAt (w2.alloc o) w2.heap.size 1 (cumF z (k + 1))) :
    Mid w ((w2.alloc o).setCell ⟨w.heap.size + 2, k + 1, none⟩ (.pointer (some ⟨w2.heap.size, 0, none⟩))) n (k + 1) z (fun i => if i = k + 1 then w2.heap.size else pb i) := by
  obtain ⟨h1, h2, h3, h4, h5⟩ := h
  have l3 := h3.lt
  have l4 := h4.lt
  have g1 := heap_setCell_other wr ⟨w.heap.size + 1, k + 1, none⟩
  have g2 := h3.step (by omega) x
  have hb := h1.setCell (p := ⟨w.heap.size + 1, k + 1, none⟩) (Nat.le_succ _) x
  have hs : (wr.setCell ⟨w.heap.size + 1, k + 1, none⟩ x).heap.size = wr.heap.size := World.size_setCell _ _ _
  have g1' : ∀ j, j ≠ w.heap.size + 1 → (wr.setCell ⟨w.heap.size + 1, k + 1, none⟩ x).heap[j]? = wr.heap[j]? := fun j hj => g1 j x hj
  clear g1
  generalize wr.setCell ⟨w.heap.size + 1, k + 1, none⟩ x = W at *
  have hw' : ∀ j, j < wr.heap.size → w2.heap[j]? = W.heap[j]? := fun j hj => hw.block j (by show j < W.heap.size; omega)
  have hsz : wr.heap.size ≤ w2.heap.size := by have := hw.size; exact Nat.le_trans (by show wr.heap.size ≤ W.heap.size; omega) this
  have e3 : ∀ j, j < wr.heap.size → (w2.alloc o).heap[j]? = W.heap[j]? := fun j hj => (Below.heap_alloc w2 o j (by omega)).trans (hw' j hj)
  have hb3 : Below w.heap.size w (w2.alloc o) := ((hb.drew).trans (hw.mono (by show w.heap.size ≤ W.heap.size; omega))).alloc (by omega) o
  have s3 : (w2.alloc o).heap.size = w2.heap.size + 1 := by simp
  generalize w2.alloc o = W3 at *
  have e4 : ∀ j, j ≠ w.heap.size + 2 → (W3.setCell ⟨w.heap.size + 2, k + 1, none⟩ (.pointer (some ⟨w2.heap.size, 0, none⟩))).heap[j]? = W3.heap[j]? := fun j hj => heap_setCell_other _ ⟨w.heap.size + 2, k + 1, none⟩ _ _ hj
  have e5 : ∀ j, j < wr.heap.size → j ≠ w.heap.size + 1 → j ≠ w.heap.size + 2 → (W3.setCell ⟨w.heap.size + 2, k + 1, none⟩ (.pointer (some ⟨w2.heap.size, 0, none⟩))).heap[j]? = wr.heap[j]? := fun j h1 h2 h3 =>
    (e4 j h3).trans ((e3 j h1).trans (g1' j h2))
  refine ⟨hb3.setCell (by show w.heap.size ≤ w.heap.size + 2; omega) _, h2.of_heap (e5 _ (by omega) (by omega) (by omega)), ?_, ?_, ?_⟩
  · refine (g2.of_heap ((e4 _ (by omega)).trans (e3 _ (by omega)))).congr fun i hi => ?_
    by_cases e : i = k + 1
    · subst e; simp [hx]
    · simp [e]
  · refine ((h4.of_heap ((e3 _ (by omega)).trans (g1' _ (by omega)))).step (by omega) _).congr fun i hi => ?_
    by_cases e : i = k + 1
    · subst e; simp
    · simp [e]
  · intro i hi
    by_cases e : i = k + 1
    · subst e
      simp only [if_true]
      refine ⟨ho.of_heap (e4 _ (by omega)), by omega, ?_⟩
      rw [World.size_setCell, s3]; omega
    · simp only [if_neg e]
      obtain ⟨p1, p2, p3⟩ := h5 i (by omega)
      refine ⟨p1.of_heap (e5 _ p3 (by omega) (by omega)), p2, ?_⟩
      rw [World.size_setCell, s3]; omega

theorem start3 (w : World) (n : Nat) (T A B : Array Value) (hT : T = #[.int .u64 0, .int .i64 0, .pointer none]) (hA : A.size = n + 1) (hA0 : A[0]? = some (.int .i64 0)) (hB : B.size = n + 1) :
    Below w.heap.size w (((w.alloc (.cells T 30)).alloc (.cells A 2)).alloc (.cells B 39)) ∧ (((w.alloc (.cells T 30)).alloc (.cells A 2)).alloc (.cells B 39)).heap.size = w.heap.size + 3 ∧
    TimeAt (((w.alloc (.cells T 30)).alloc (.cells A 2)).alloc (.cells B 39)) w.heap.size 0 0 ∧
    RowP (((w.alloc (.cells T 30)).alloc (.cells A 2)).alloc (.cells B 39)) (w.heap.size + 1) (n + 1) 1 2 (fun _ => .int .i64 0) ∧
    RowP (((w.alloc (.cells T 30)).alloc (.cells A 2)).alloc (.cells B 39)) (w.heap.size + 2) (n + 1) 0 39 (fun _ => .pointer none) := by
  have b1 := (((Below.refl w.heap.size w).alloc (Nat.le_refl _) (.cells T 30)).alloc (by simp) (.cells A 2)).alloc (by simp; omega) (.cells B 39)
  have s1 : (w.alloc (.cells T 30)).heap.size = w.heap.size + 1 := by simp
  have h1 := heap_alloc_new w (.cells T 30)
  generalize w.alloc (.cells T 30) = W1 at *
  have s2 : (W1.alloc (.cells A 2)).heap.size = w.heap.size + 2 := by simp [s1]
  have h2 := heap_alloc_new W1 (.cells A 2)
  have k1 := (Below.heap_alloc W1 (.cells A 2) w.heap.size (by omega)).trans h1
  rw [s1] at h2
  generalize W1.alloc (.cells A 2) = W2 at *
  have s3 : (W2.alloc (.cells B 39)).heap.size = w.heap.size + 3 := by simp [s2]
  have h3 := heap_alloc_new W2 (.cells B 39)
  have k2 := (Below.heap_alloc W2 (.cells B 39) w.heap.size (by omega)).trans k1
  have k3 := (Below.heap_alloc W2 (.cells B 39) (w.heap.size + 1) (by omega)).trans h2
  rw [s2] at h3
  generalize W2.alloc (.cells B 39) = W3 at *
  refine ⟨b1, s3, ?_, ⟨A, k3, hA, ?_⟩, ⟨B, h3, hB, ?_⟩⟩
  · subst hT
    refine ⟨?_, ?_, ?_⟩ <;> rw [cell_of_row _ _ _ _ _ _ k2] <;> rfl
  · intro i hi
    obtain rfl : i = 0 := by omega
    exact hA0
  · intro i hi; omega

/-- The first period is made and stored. -/
theorem mid_start {w W : World} {n : Nat} {z : Nat → Nat} (hb : Below w.heap.size w W) (hs : W.heap.size = w.heap.size + 3) (ht : TimeAt W w.heap.size 0 0) (hc : RowP W (w.heap.size + 1) (n + 1) 1 2 (fun _ => .int .i64 0))
    (hp : RowP W (w.heap.size + 2) (n + 1) 0 39 (fun _ => .pointer none)) (o : Obj) (ho : TimeAt (W.alloc o) W.heap.size 1 0) :
    Mid w ((W.alloc o).setCell ⟨w.heap.size + 2, 0, none⟩ (.pointer (some ⟨W.heap.size, 0, none⟩))) n 0 z (fun _ => W.heap.size) := by
  have s3 : (W.alloc o).heap.size = W.heap.size + 1 := by simp
  have e3 : ∀ j, j < W.heap.size → (W.alloc o).heap[j]? = W.heap[j]? := fun j hj => Below.heap_alloc W o j hj
  have hb3 := hb.alloc (by omega) o
  generalize W.alloc o = W3 at *
  have e4 : ∀ j, j ≠ w.heap.size + 2 → (W3.setCell ⟨w.heap.size + 2, 0, none⟩ (.pointer (some ⟨W.heap.size, 0, none⟩))).heap[j]? = W3.heap[j]? := fun j hj => heap_setCell_other _ ⟨w.heap.size + 2, 0, none⟩ _ _ hj
  refine ⟨hb3.setCell (by show w.heap.size ≤ w.heap.size + 2; omega) _, ht.of_heap ((e4 _ (by omega)).trans (e3 _ (by omega))), ?_, ?_, ?_⟩
  · refine (hc.of_heap ((e4 _ (by omega)).trans (e3 _ (by omega)))).congr fun i hi => ?_
    obtain rfl : i = 0 := by omega
    rfl
  · refine ((hp.of_heap (e3 _ (by omega))).step (by omega) _).congr fun i hi => ?_
    obtain rfl : i = 0 := by omega
    simp
  · intro i hi
    obtain rfl : i = 0 := by omega
    refine ⟨ho.of_heap (e4 _ (by omega)), by omega, ?_⟩
    rw [World.size_setCell, s3]; omega

set_option maxHeartbeats 4000000 in
set_option maxRecDepth 100000 in
/-- zzs1934bbuild. -/
theorem build_walk (a : Option Addr) (n cap : Nat) (z : Nat → Nat) (w : World) (hn : n ≤ 1024) (hz : ∀ i, i < n → z i < 4294967296) (hi : ∀ i, i < n → ∃ x, a = some x ∧ w.cell? (x.add i) = some (.int .u32 (z i))) :
    Calls Yba.prog 5 #[.slice a n cap] w fun e w' => ∃ pb, e = .returned (.tuple #[.slice (some ⟨w.heap.size + 1, 0, none⟩) (n + 1) (n + 1), .slice (some ⟨w.heap.size + 2, 0, none⟩) (n + 1) (n + 1)]) ∧ Mid w w' n n z pb := by
  obtain ⟨i2, g1, g2, g3, g4⟩ := info_parts Yba.info2
  obtain ⟨i39, k1, k2, k3, k4⟩ := info_parts Yba.info39
  have m1 := fun w => run_make (P := Yba.prog) w 24 2 i2 _ Yba.underlying24 g1 g2 .i64 .i64 ((n : Int) + 1) ((n : Int) + 1) (by omega) (by omega) (by rw [g4]; omega) (by omega)
  have m2 := fun w => run_make (P := Yba.prog) w 25 39 i39 _ Yba.underlying25 k1 k2 .i64 .i64 ((n : Int) + 1) ((n : Int) + 1) (by omega) (by omega) (by rw [k4]; omega) (by omega)
  have en : ((n : Int) + 1).toNat = n + 1 := by omega
  simp only [g3, k3, en, Nat.mul_one] at m1 m2
  clear g1 g2 g3 g4 k1 k2 k3 k4 en
  have HI := hid hi
  have HZ := hid hz
  clear hi hz
  have ST := hid (start3 w n _ (madeCells #[Value.int IntKind.i64 0] (n + 1)) (madeCells #[Value.pointer none] (n + 1)) rfl (size_madeCells _ _) (by simp [madeCells]) (size_madeCells _ _))
  go_enter Yba.func5, Yba.ntmps5
  go_upto_region 4 with fail
  rw [show w.heap.size + 1 + 1 = w.heap.size + 2 from rfl]
  generalize ((w.alloc (Obj.cells #[Value.int IntKind.u64 0, Value.int IntKind.i64 0, Value.pointer none] 30)).alloc (Obj.cells (madeCells #[Value.int IntKind.i64 0] (n + 1)) 2)).alloc
      (Obj.cells (madeCells #[Value.pointer none] (n + 1)) 39) = W at ST ⊢
  obtain ⟨hb, hs, ht, hc, hp⟩ := ST
  have MS : Hid (∀ o, TimeAt (W.alloc o) W.heap.size 1 0 → Mid w ((W.alloc o).setCell ⟨w.heap.size + 2, 0, none⟩ (.pointer (some ⟨W.heap.size, 0, none⟩))) n 0 z (fun _ => W.heap.size)) := fun o ho => mid_start hb hs ht hc hp o ho
  obtain ⟨t1, t2, t3⟩ := ht
  have t1' : W.cell? ⟨w.heap.size, 0, none⟩ = some (.int .u64 0) := t1
  have t2' : W.cell? ⟨w.heap.size, 1, none⟩ = some (.int .i64 0) := t2
  have t3' : W.cell? ⟨w.heap.size, 2, none⟩ = some (.pointer none) := t3
  obtain ⟨⟨u, hu⟩, hf⟩ := hp.there (i := 0) (by omega)
  have hu' : ∀ o, (W.alloc o).cell? ⟨w.heap.size + 2, 0, none⟩ = some u := fun o => by rw [World.cell?_alloc_past _ _ _ (by show w.heap.size + 2 < W.heap.size; omega)]; exact hu
  have hf' : ∀ o, (W.alloc o).frozen? ⟨w.heap.size + 2, 0, none⟩ = false := fun o => by rw [World.frozen?_of_block (w := W) (Below.heap_alloc W o _ (by show w.heap.size + 2 < W.heap.size; omega))]; exact hf
  clear hb hc hp t1 t2 t3 m1 m2 hu hf
  have HSZ := hid hs
  clear hs
  go_wp2_with fail
  go_loopw [25] (fun v wr => ∃ (k : Nat) (pb : Nat → Nat), k ≤ n ∧ v = .int .i64 k ∧ Mid w wr n k z pb) (fun v _ => n - (intOf v).toNat)
  case atStart => exact ⟨0, _, by omega, rfl, MS.out _ ⟨by simp, by simp, by simp⟩⟩
  case round =>
    obtain ⟨k, pb, hk, rfl, hmid⟩ := hrel
    clear t1' t2' t3' hu' hf' MS
    by_cases hlt : k < n
    · obtain ⟨x, rfl, hx⟩ := HI.out k hlt
      have hx' := (hmid.below.cell (p := x.add k) (block_lt_of_cell hx)).trans hx
      have b1 : wr.cell? ⟨w.heap.size, 0, none⟩ = some (.int .u64 0) := hmid.base.1
      have b2 : wr.cell? ⟨w.heap.size, 1, none⟩ = some (.int .i64 0) := hmid.base.2.1
      have b3 : wr.cell? ⟨w.heap.size, 2, none⟩ = some (.pointer none) := hmid.base.2.2
      have c1 := hmid.cums.cell (i := k) (by omega)
      obtain ⟨⟨u1, d1⟩, d2⟩ := hmid.cums.there (i := k + 1) (by omega)
      obtain ⟨⟨u2, f1⟩, f2⟩ := hmid.ps.there (i := k + 1) (by omega)
      obtain ⟨ck, eck⟩ : ∃ c : Int, c = ((cumF z k : Nat) : Int) := ⟨_, rfl⟩
      obtain ⟨zk, ezk⟩ : ∃ c : Int, c = ((z k : Nat) : Int) := ⟨_, rfl⟩
      have hck := cumF_le HZ.out k (by omega)
      have hzk := HZ.out k hlt
      have ck0 : 0 ≤ ck := by omega
      have ck1 : ck ≤ 4398046511104 := by omega
      have zk0 : 0 ≤ zk := by omega
      have zk1 : zk < 4294967296 := by omega
      have hsum : ck + zk + 1 = ((cumF z (k + 1) : Nat) : Int) := by show _ = ((cumF z k + z k + 1 : Nat) : Int); omega
      have hd := cumF_le HZ.out (k + 1) (by omega)
      obtain ⟨r1, er1⟩ : ∃ c : Int, c = ((cumF z (k + 1) % 1000000000 : Nat) : Int) := ⟨_, rfl⟩
      obtain ⟨r2, er2⟩ : ∃ c : Int, c = ((cumF z (k + 1) / 1000000000 : Nat) : Int) := ⟨_, rfl⟩
      have AD : Hid (∀ wx : World, Calls Yba.prog 6 #[.agg #[.int .u64 0, .int .i64 0, .pointer none], .int .i64 (ck + zk + 1)] wx fun e w' => e = .returned (.agg #[.int .u64 r1, .int .i64 r2, .pointer none]) ∧ Below wx.heap.size wx w') := fun wx => by
        have := add (cumF z (k + 1)) (by omega) wx
        rw [← hsum] at this
        rw [er1, er2]
        exact this
      have lps := hmid.ps.lt
      have lcs := hmid.cums.lt
      have AD2 : Hid (∀ (v : Value), Calls Yba.prog 6 #[.agg #[.int .u64 0, .int .i64 0, .pointer none], .int .i64 (ck + zk + 1)] (wr.setCell ⟨w.heap.size + 1, k + 1, none⟩ v).drew
          fun e w' => e = .returned (.agg #[.int .u64 r1, .int .i64 r2, .pointer none]) ∧ Below (wr.setCell ⟨w.heap.size + 1, k + 1, none⟩ v).drew.heap.size (wr.setCell ⟨w.heap.size + 1, k + 1, none⟩ v).drew w' ∧
            (∀ o, (w'.alloc o).cell? ⟨w.heap.size + 2, k + 1, none⟩ = some u2) ∧ (∀ o, (w'.alloc o).frozen? ⟨w.heap.size + 2, k + 1, none⟩ = false)) := fun v => by
        refine (AD.out _).mono ?_
        rintro e w' ⟨rfl, hb⟩
        have hl : w.heap.size + 2 < (wr.setCell ⟨w.heap.size + 1, k + 1, none⟩ v).drew.heap.size := by show _ < (wr.setCell ⟨w.heap.size + 1, k + 1, none⟩ v).heap.size; rw [World.size_setCell]; exact lps
        have q : w'.heap[w.heap.size + 2]? = wr.heap[w.heap.size + 2]? := (hb.block _ hl).trans (heap_setCell_other wr ⟨w.heap.size + 1, k + 1, none⟩ _ _ (by simp))
        have hl' := Nat.lt_of_lt_of_le hl hb.size
        refine ⟨rfl, hb, fun o => ?_, fun o => ?_⟩
        · exact (World.cell?_of_block (w := wr) (a := ⟨w.heap.size + 2, k + 1, none⟩) ((Below.heap_alloc w' o _ hl').trans q)).trans f1
        · exact (World.frozen?_of_block (w := wr) (a := ⟨w.heap.size + 2, k + 1, none⟩) ((Below.heap_alloc w' o _ hl').trans q)).trans f2
      have HE : Hid (ck + zk + 1 = ((cumF z (k + 1) : Nat) : Int) ∧ r1 = ((cumF z (k + 1) % 1000000000 : Nat) : Int) ∧ r2 = ((cumF z (k + 1) / 1000000000 : Nat) : Int)) := ⟨hsum, er1, er2⟩
      rw [← eck] at c1
      rw [← ezk] at hx'
      have HM := hid hmid
      have HW5 : Hid (∀ v : Value, (wr.setCell ⟨w.heap.size + 1, k + 1, none⟩ v).cell? ⟨w.heap.size, 0, none⟩ = some (.int .u64 0) ∧ (wr.setCell ⟨w.heap.size + 1, k + 1, none⟩ v).cell? ⟨w.heap.size, 1, none⟩ = some (.int .i64 0) ∧
          (wr.setCell ⟨w.heap.size + 1, k + 1, none⟩ v).cell? ⟨w.heap.size, 2, none⟩ = some (.pointer none) ∧ (wr.setCell ⟨w.heap.size + 1, k + 1, none⟩ v).cell? ⟨w.heap.size + 1, k + 1, none⟩ = some v) := fun v => by
        have q := heap_setCell_other wr ⟨w.heap.size + 1, k + 1, none⟩ w.heap.size v (by simp)
        have g := (hmid.cums.step (by omega) v).cell (i := k + 1) (by omega)
        simp only [if_true] at g
        exact ⟨(World.cell?_of_block (w := wr) (a := ⟨w.heap.size, 0, none⟩) q).trans b1, (World.cell?_of_block (w := wr) (a := ⟨w.heap.size, 1, none⟩) q).trans b2, (World.cell?_of_block (w := wr) (a := ⟨w.heap.size, 2, none⟩) q).trans b3, g⟩
      clear hmid hx AD hd hsum er1 er2 hzk hck eck ezk f1 f2 lps lcs b1 b2 b3
      go_upto_region 9 with fail
      have AD3 := hid (AD2.out (.int .i64 (ck + zk + 1)))
      obtain ⟨b1, b2, b3, b4⟩ := HW5.out (.int .i64 (ck + zk + 1))
      have HMS : Hid (∀ (w2 : World) (o : Obj), Below (wr.setCell ⟨w.heap.size + 1, k + 1, none⟩ (.int .i64 (ck + zk + 1))).drew.heap.size (wr.setCell ⟨w.heap.size + 1, k + 1, none⟩ (.int .i64 (ck + zk + 1))).drew w2 →
          TimeAt (w2.alloc o) w2.heap.size 1 (cumF z (k + 1)) → Mid w ((w2.alloc o).setCell ⟨w.heap.size + 2, k + 1, none⟩ (.pointer (some ⟨w2.heap.size, 0, none⟩))) n (k + 1) z (fun i => if i = k + 1 then w2.heap.size else pb i)) :=
        fun w2 o h1 h2 => mid_step HM.out hlt o (by rw [HE.out.1]) h1 h2
      clear AD2 HW5 HM c1 d1 d2 hx'
      generalize wr.setCell ⟨w.heap.size + 1, k + 1, none⟩ (.int .i64 (ck + zk + 1)) = W5 at AD3 b1 b2 b3 b4 HMS ⊢
      obtain ⟨K1, hK1⟩ : ∃ m : Nat, m = k + 1 := ⟨_, rfl⟩
      obtain ⟨N1, hN1⟩ : ∃ m : Nat, m = n + 1 := ⟨_, rfl⟩
      have eK : (k : Int) + 1 = (K1 : Int) := by omega
      have ki : K1 < N1 := by omega
      rw [← hK1] at AD3 HMS b4
      rw [← hN1]
      have HK := hid hK1
      have HN := hid hN1
      have HL := hid hlt
      have wk : IntKind.i64.wrap ((k : Int) + 1) = (K1 : Int) := by rw [IntKind.wrap_i64]; omega
      have wk' : IntKind.i64.wrap (K1 : Int) = (K1 : Int) := by rw [IntKind.wrap_i64]; omega
      have ki0 : (0 : Int) ≤ (K1 : Int) := by omega
      have ki1 : (K1 : Int) < (N1 : Int) := by omega
      clear hK1 hN1 hlt hn
      have lB : w.heap.size + 1 < W5.heap.size := block_lt_of_cell b4
      have AD4 : Hid (Calls Yba.prog 6 #[.agg #[.int .u64 0, .int .i64 0, .pointer none], .int .i64 (ck + zk + 1)] W5.drew
          fun e w' => e = .returned (.agg #[.int .u64 r1, .int .i64 r2, .pointer none]) ∧ Hid (Below W5.drew.heap.size W5.drew w') ∧
            (∀ o, (w'.alloc o).cell? ⟨w.heap.size + 2, K1, none⟩ = some u2) ∧ (∀ o, (w'.alloc o).frozen? ⟨w.heap.size + 2, K1, none⟩ = false) ∧
            w'.cell? ⟨w.heap.size, 0, none⟩ = some (.int .u64 0) ∧ w'.cell? ⟨w.heap.size, 1, none⟩ = some (.int .i64 0) ∧ w'.cell? ⟨w.heap.size, 2, none⟩ = some (.pointer none) ∧ w'.cell? ⟨w.heap.size + 1, K1, none⟩ = some (.int .i64 (ck + zk + 1))) := by
        refine AD3.out.mono ?_
        rintro e w' ⟨rfl, hb, s1, s2⟩
        exact ⟨rfl, hb, s1, s2, (hb.cell (p := ⟨w.heap.size, 0, none⟩) (by show w.heap.size < W5.heap.size; omega)).trans b1, (hb.cell (p := ⟨w.heap.size, 1, none⟩) (by show w.heap.size < W5.heap.size; omega)).trans b2,
          (hb.cell (p := ⟨w.heap.size, 2, none⟩) (by show w.heap.size < W5.heap.size; omega)).trans b3, (hb.cell (p := ⟨w.heap.size + 1, K1, none⟩) (by show w.heap.size + 1 < W5.heap.size; omega)).trans b4⟩
      clear AD3
      go_region_held3 (fun w' => w'.cell? ⟨w.heap.size, 0, none⟩ = some (.int .u64 0) ∧ w'.cell? ⟨w.heap.size, 1, none⟩ = some (.int .i64 0) ∧ w'.cell? ⟨w.heap.size, 2, none⟩ = some (.pointer none) ∧ w'.cell? ⟨w.heap.size + 1, K1, none⟩ = some (.int .i64 (ck + zk + 1))) (go_keep)
        (first | (go_at_call 6; refine AD4.out.mono ?_; rintro e w2 ⟨rfl, hw, s1, s2, s3, s4, s5, s6⟩))
      all_goals
        have hn1 := HN.out
        subst hn1
        go_wp2
        go_roundw
        case rel =>
          have hk1 := HK.out
          subst hk1
          refine ⟨k + 1, _, HL.out, by go_num, HMS.out w2 _ hw.out ⟨?_, ?_, ?_⟩⟩
          · simp [HE.out.2.1]
          · simp [HE.out.2.2]
          · simp
        case measure => have := HL.out; simp [intOf]; omega
    · have hkn : k = n := by omega
      subst hkn
      go_wp2
      go_ret2
      exact ⟨pb, rfl, hmid⟩
end Go.Proofs.Ybulkanak
