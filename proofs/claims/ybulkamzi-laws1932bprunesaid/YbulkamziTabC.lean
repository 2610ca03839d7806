import Derived.Test.YbulkamziTabB
namespace Go.Proofs.Ybulkamzi
open Go.RowKit
set_option linter.unusedVariables false

def updB {α : Type} (f : Nat → α) (k : Nat) (v : α) : Nat → α := fun i => if i = k then v else f i
theorem updB_same {α : Type} (f : Nat → α) (k : Nat) (v : α) : updB f k v k = v := by simp [updB]
theorem updB_other {α : Type} (f : Nat → α) (k i : Nat) (v : α) (h : i ≠ k) : updB f k v i = f i := by simp [updB, h]

theorem and_pow (s e : Nat) (he : e ≤ 6) (hs : s < 18446744073709551616) : bits .and .u64 (s : Int) (((2 ^ e : Nat) : Int) - 1) = ((s % 2 ^ e : Nat) : Int) := by
  have h1 : 1 ≤ 2 ^ e := Nat.one_le_two_pow
  have h2 : 2 ^ e ≤ 2 ^ 6 := Nat.pow_le_pow_right (by omega) he
  have := u64_and_nat s (2 ^ e - 1) hs (by omega)
  rw [Nat.and_two_pow_sub_one_eq_mod] at this
  rw [← this]
  congr 1
  omega

/-- The sizes that the law's tables have. -/
structure Pow (n : Nat) : Prop where
  pow : ∃ e, e ≤ 6 ∧ n = 2 ^ e
  even : n % 2 = 0
  le : n ≤ 64
  pos : 2 ≤ n
theorem Pow.and {n : Nat} (h : Pow n) (s : Nat) (hs : s < 18446744073709551616) : bits .and .u64 (s : Int) ((n : Int) - 1) = ((s % n : Nat) : Int) := by
  obtain ⟨e, he, rfl⟩ := h.pow
  exact and_pow s e he hs

theorem mask_n (tb gb n : Nat) (rb spot : Nat → Nat) (R : Nat → Option Nat) (hn : Pow n) (w : World) (h : Tab w tb gb n rb spot R) :
    Calls Yba.prog 29 #[.pointer (some ⟨tb, 0, none⟩)] w fun e w' => e = .returned (.int .u64 ((n : Int) - 1)) ∧ w' = w := by
  have h1 := hn.le; have h2 := hn.pos; have h3 := hn.even
  have := mask_walk tb gb (n / 2) (by omega) (by omega) w h.hdr
  rw [show (2 * ((n / 2 : Nat) : Int) - 1) = (n : Int) - 1 by omega] at this
  exact this
theorem size_n (tb gb n : Nat) (rb spot : Nat → Nat) (R : Nat → Option Nat) (hn : Pow n) (w : World) (h : Tab w tb gb n rb spot R) :
    Calls Yba.prog 31 #[.pointer (some ⟨tb, 0, none⟩)] w fun e w' => e = .returned (.int .i64 (n : Int)) ∧ w' = w := by
  have h1 := hn.le; have h2 := hn.pos; have h3 := hn.even
  have := size_walk tb gb (n / 2) (by omega) w h.hdr
  rw [show (2 * ((n / 2 : Nat) : Int)) = (n : Int) by omega] at this
  exact this
theorem at_n (tb gb n p : Nat) (rb spot : Nat → Nat) (R : Nat → Option Nat) (hn : Pow n) (hp : p < n) (w : World) (h : Tab w tb gb n rb spot R) :
    Calls Yba.prog 18 #[.pointer (some ⟨tb, 0, none⟩), .int .u64 p] w fun e w' => e = .returned (.pointer (ptrV rb (R p))) ∧ w' = w := at_walk tb gb n p rb spot R hn.le hp hn.even w h

/-- (*nameTable).start. -/
theorem start_n (tb gb n s : Nat) (rb spot : Nat → Nat) (R : Nat → Option Nat) (hn : Pow n) (hs : s < 4294967296) (w : World) (h : Tab w tb gb n rb spot R) :
    Calls Yba.prog 28 #[.pointer (some ⟨tb, 0, none⟩), .int .u32 s] w fun e w' => e = .returned (.int .u64 ((s % n : Nat) : Int)) ∧ w' = w := by
  have h1 := hn.and s (by omega)
  have M := hidB (mask_n tb gb n rb spot R hn w h)
  have h2 := hn.le; have h3 := hn.pos
  obtain ⟨y, hy⟩ : ∃ y : Int, y = ((s % n : Nat) : Int) := ⟨_, rfl⟩
  rw [← hy] at h1 ⊢
  clear h hy
  go_enter Yba.func28, Yba.ntmps28
  go_wp2_with (go_at_call 29; refine M.out.mono ?_; rintro e w' ⟨rfl, rfl⟩)
  go_ret
  exact ⟨rfl, rfl⟩

/-- (*nameTable).spotAt. -/
theorem spotAt_n (tb gb n p : Nat) (rb spot : Nat → Nat) (R : Nat → Option Nat) (hn : Pow n) (hp : p < n) (w : World) (h : Tab w tb gb n rb spot R) :
    Calls Yba.prog 19 #[.pointer (some ⟨tb, 0, none⟩), .int .u64 p] w fun e w' => e = .returned (.int .u32 (spotV spot (R p) : Nat)) ∧ w' = w := by
  have hh := h.hdr
  have hle := hn.le; have hpos := hn.pos; have hev := hn.even
  obtain ⟨g, hg⟩ : ∃ g, g = n / 2 := ⟨_, rfl⟩
  obtain ⟨a, ha⟩ : ∃ a, a = p / 2 := ⟨_, rfl⟩
  obtain ⟨r, hr⟩ : ∃ r, r = p % 2 := ⟨_, rfl⟩
  have e1 : (p : Int) / 2 = (a : Int) := by omega
  have e2 : (p : Int) % 2 = (r : Int) := by omega
  have e1' : (p : Int).tdiv 2 = (a : Int) := by rw [Int.tdiv_eq_ediv_of_nonneg (by omega)]; omega
  have e2' : (p : Int).tmod 2 = (r : Int) := by rw [Int.tmod_eq_emod_of_nonneg (by omega)]; omega
  have hal : a < g := by omega
  have hr2 : r < 2 := by omega
  have hc := (h.spotCell hp).1
  rw [← ha, ← hr] at hc
  rw [← hg] at hh
  have hg32 : g ≤ 32 := by omega
  have L := hidB (u32_load gb (a * 4 + r) _ w hc)
  clear hc h hg ha hr hle hpos hev
  go_enter Yba.func19, Yba.ntmps19
  go_wp2_with (go_at_call 40; refine L.out.mono ?_; rintro e w' ⟨rfl, rfl⟩)
  go_ret
  exact ⟨rfl, rfl⟩

/-- The world in which place p holds (x, its spot). -/
def putAt (w : World) (gb p : Nat) (x : Option Addr) (s : Int) : World :=
  (w.setCell ⟨gb, p / 2 * 4 + 2 + p % 2, none⟩ (.pointer x)).setCell ⟨gb, p / 2 * 4 + p % 2, none⟩ (.int .u32 s)

theorem tabRow_put {c : Array Value} {n : Nat} {rb spot : Nat → Nat} {R : Nat → Option Nat} (h : TabRow c n rb spot R) {p : Nat} (hp : p < n) (x : Option Nat) (hev : n % 2 = 0) :
    TabRow ((c.setIfInBounds (p / 2 * 4 + 2 + p % 2) (.pointer (ptrV rb x))).setIfInBounds (p / 2 * 4 + p % 2) (.int .u32 (spotV spot x : Nat))) n rb spot (updB R p x) := by
  obtain ⟨h1, h2⟩ := h
  refine ⟨by simp [h1], fun q hq => ?_⟩
  obtain ⟨k1, k2⟩ := h2 q hq
  simp only [Array.getElem?_setIfInBounds, Array.size_setIfInBounds]
  by_cases e : q = p
  · subst e
    rw [updB_same]
    rw [if_pos rfl, if_pos (by omega), if_neg (by omega), if_pos rfl, if_pos (by omega)]
    exact ⟨rfl, rfl⟩
  · rw [updB_other _ _ _ _ e]
    rw [if_neg (by omega), if_neg (by omega), if_neg (by omega), if_neg (by omega)]
    exact ⟨k1, k2⟩

theorem heap_putAt_same {w : World} {gb p : Nat} {x : Option Addr} {s : Int} {c : Array Value} {t : TypeId} (h : w.heap[gb]? = some (.cells c t (0, 0))) :
    (putAt w gb p x s).heap[gb]? = some (.cells ((c.setIfInBounds (p / 2 * 4 + 2 + p % 2) (.pointer x)).setIfInBounds (p / 2 * 4 + p % 2) (.int .u32 s)) t (0, 0)) :=
  heap_setCell_same _ _ _ _ _ _ (heap_setCell_same _ _ _ _ _ _ h)
theorem heap_putAt_other (w : World) (gb p k : Nat) (x : Option Addr) (s : Int) (h : k ≠ gb) : (putAt w gb p x s).heap[k]? = w.heap[k]? :=
  (heap_setCell_other _ ⟨gb, p / 2 * 4 + p % 2, none⟩ k _ h).trans (heap_setCell_other _ ⟨gb, p / 2 * 4 + 2 + p % 2, none⟩ k _ h)
theorem size_putAt (w : World) (gb p : Nat) (x : Option Addr) (s : Int) : (putAt w gb p x s).heap.size = w.heap.size := by
  unfold putAt; rw [World.size_setCell, World.size_setCell]
theorem below_putAt {B : Nat} {a w : World} (h : Below B a w) (gb p : Nat) (x : Option Addr) (s : Int) (hB : B ≤ gb) : Below B a (putAt w gb p x s) := (h.setCell (p := ⟨gb, _, none⟩) hB _).setCell (p := ⟨gb, _, none⟩) hB _
theorem shape_of_heap {w w' : World} {b : Nat} (h : w'.heap[b]? = w.heap[b]?) : w'.shape? b = w.shape? b := by unfold World.shape?; rw [h]
theorem shape_setCell' (w : World) (a : Addr) (v : Value) (b : Nat) : (w.setCell a v).shape? b = w.shape? b := by
  unfold World.shape? World.setCell
  simp only [Array.getElem?_modify]
  by_cases h : a.block = b
  · subst h
    simp only [if_true]
    cases hh : w.heap[a.block]? with
    | none => simp
    | some o =>
      cases o with
      | cells c e f => simp; split <;> simp
      | _ => simp
  · rw [if_neg h]

theorem Tab.put {w : World} {tb gb n : Nat} {rb spot : Nat → Nat} {R : Nat → Option Nat} (h : Tab w tb gb n rb spot R) {p : Nat} (hp : p < n) (x : Option Nat) (hev : n % 2 = 0) (htg : tb ≠ gb)
    (hx : ∀ k, x = some k → w.shape? (rb k) = some (101, 9)) : Tab (putAt w gb p (ptrV rb x) (spotV spot x : Nat)) tb gb n rb spot (updB R p x) := by
  obtain ⟨h1, ⟨c, h2, h3⟩, h4⟩ := h
  refine ⟨?_, ⟨_, heap_putAt_same h2, tabRow_put h3 hp x hev⟩, fun q k hq hk => ?_⟩
  · rw [World.cell?_of_block (w := w) (a := ⟨tb, 0, none⟩) (heap_putAt_other w gb p tb _ _ htg)]; exact h1
  · unfold putAt
    rw [shape_setCell', shape_setCell']
    by_cases e : q = p
    · subst e; rw [updB_same] at hk; exact hx k hk
    · rw [updB_other _ _ _ _ e] at hk; exact h4 q k hq hk
theorem Tab.of_heap {w w' : World} {tb gb n : Nat} {rb spot : Nat → Nat} {R : Nat → Option Nat} (h : Tab w tb gb n rb spot R) (h1 : w'.heap[tb]? = w.heap[tb]?) (h2 : w'.heap[gb]? = w.heap[gb]?) (h3 : ∀ p k, p < n → R p = some k → w'.shape? (rb k) = w.shape? (rb k)) :
    Tab w' tb gb n rb spot R := by
  obtain ⟨k1, ⟨c, k2, k3⟩, k4⟩ := h
  exact ⟨(World.cell?_of_block (w := w) (a := ⟨tb, 0, none⟩) h1).trans k1, ⟨c, h2.trans k2, k3⟩, fun q k hq hk => (h3 q k hq hk).trans (k4 q k hq hk)⟩

/-- (*nameTable).set. -/
theorem set_walk (tb gb n p k : Nat) (rb spot : Nat → Nat) (R : Nat → Option Nat) (hn : Pow n) (hp : p < n) (w : World) (h : Tab w tb gb n rb spot R) (s : Nat) (v : Value) (hk : w.cell? ⟨rb k, 0, none⟩ = some v) (hkg : rb k ≠ gb) :
    Calls Yba.prog 30 #[.pointer (some ⟨tb, 0, none⟩), .int .u64 p, .pointer (some ⟨rb k, 0, none⟩), .int .u32 s] w fun e w' => e = .returned (.tuple #[]) ∧ w' = putAt w gb p (some ⟨rb k, 0, none⟩) s := by
  have hh := h.hdr
  have hle := hn.le; have hpos := hn.pos; have hev := hn.even
  obtain ⟨g, hg⟩ : ∃ g, g = n / 2 := ⟨_, rfl⟩
  obtain ⟨a, ha⟩ : ∃ a, a = p / 2 := ⟨_, rfl⟩
  obtain ⟨r, hr⟩ : ∃ r, r = p % 2 := ⟨_, rfl⟩
  have e1 : (p : Int) / 2 = (a : Int) := by omega
  have e2 : (p : Int) % 2 = (r : Int) := by omega
  have e1' : (p : Int).tdiv 2 = (a : Int) := by rw [Int.tdiv_eq_ediv_of_nonneg (by omega)]; omega
  have e2' : (p : Int).tmod 2 = (r : Int) := by rw [Int.tmod_eq_emod_of_nonneg (by omega)]; omega
  have hal : a < g := by omega
  have hr2 : r < 2 := by omega
  obtain ⟨c1, c2⟩ := h.resCell hp
  obtain ⟨c3, c4⟩ := h.spotCell hp
  unfold putAt
  rw [← ha, ← hr] at c1 c2 c3 c4 ⊢
  rw [← hg] at hh
  have hg32 : g ≤ 32 := by omega
  have L1 := hidB (res_store gb (a * 4 + 2 + r) (some (rb k)) _ w c1 c2 (fun j hj => by cases hj; exact ⟨v, hk⟩))
  have c3' : (w.setCell ⟨gb, a * 4 + 2 + r, none⟩ (.pointer (some ⟨rb k, 0, none⟩))).cell? ⟨gb, a * 4 + r, none⟩ = some (.int .u32 (spotV spot (R p) : Nat)) := by
    rw [World.cell?_setCell_other _ _ _ _ (by simp only [ne_eq, Addr.mk.injEq]; omega)]; exact c3
  have c4' : (w.setCell ⟨gb, a * 4 + 2 + r, none⟩ (.pointer (some ⟨rb k, 0, none⟩))).frozen? ⟨gb, a * 4 + r, none⟩ = false := by
    rw [World.frozen?_setCell]; exact c4
  have L2 := hidB (u32_store gb (a * 4 + r) _ s _ c3' c4')
  clear c1 c2 c3 c4 c3' c4' h hg ha hr hle hpos hev hk
  simp only [Option.map_some] at L1
  go_enter Yba.func30, Yba.ntmps30
  go_wp2_with (first | (go_at_call 52; refine L1.out.mono ?_; rintro e w' ⟨rfl, rfl⟩) | (go_at_call 10; refine L2.out.mono ?_; rintro e w' ⟨rfl, rfl⟩))
  go_end0
  exact ⟨rfl, rfl⟩
end Go.Proofs.Ybulkamzi
