import Derived.Test.YbulkamziProg
import Derived.WalkKit
import Derived.WalkSpells
import Derived.WalkLawsBesides
namespace Go.Proofs.Ybulkamzi
open Go.RowKit

theorem hid {p : Prop} (h : p) : Hid p := h

/-- The blocks that S names are as they were; the streams too; no block has gone. -/
structure Kept (S : Nat → Prop) (w w' : World) : Prop where
  os : w'.os = w.os
  tape : w'.tape = w.tape
  output : w'.output = w.output
  size : w.heap.size ≤ w'.heap.size
  block : ∀ k, S k → w'.heap[k]? = w.heap[k]?

theorem Kept.refl (S : Nat → Prop) (w : World) : Kept S w w := ⟨rfl, rfl, rfl, Nat.le_refl _, fun _ _ => rfl⟩
theorem Kept.trans {S : Nat → Prop} {a b c : World} (h : Kept S a b) (k : Kept S b c) : Kept S a c :=
  ⟨k.os.trans h.os, k.tape.trans h.tape, k.output.trans h.output, Nat.le_trans h.size k.size, fun i hi => (k.block i hi).trans (h.block i hi)⟩
theorem Kept.drew {S : Nat → Prop} {a w : World} (h : Kept S a w) : Kept S a w.drew := ⟨h.os, h.tape, h.output, h.size, h.block⟩
theorem Kept.drewN {S : Nat → Prop} {a w : World} (h : Kept S a w) (n : Nat) : Kept S a (w.drewN n) := h.trans ⟨rfl, rfl, rfl, Nat.le_refl _, fun _ _ => rfl⟩
theorem Kept.alloc {S : Nat → Prop} {a w : World} (h : Kept S a w) (hS : ∀ k, S k → k < w.heap.size) (o : Obj) : Kept S a (w.alloc o) :=
  h.trans ⟨rfl, rfl, rfl, by simp, fun k hk => Below.heap_alloc _ _ _ (hS k hk)⟩
theorem Kept.setCell {S : Nat → Prop} {a w : World} (h : Kept S a w) {p : Addr} (hp : ¬ S p.block) (u : Value) : Kept S a (w.setCell p u) :=
  h.trans ⟨rfl, rfl, rfl, by simp [World.setCell], fun k hk => Below.heap_setCell _ _ _ _ (fun e => hp (e ▸ hk))⟩
theorem Kept.grown {S : Nat → Prop} {a w w' : World} {row : Option Nat} (h : Kept S a w) (hg : w.grownBy w' row) (hS : ∀ k, S k → k < w.heap.size ∧ some k ≠ row) : Kept S a w' :=
  h.trans ⟨hg.os, hg.tape, hg.output, hg.size, fun k hk => hg.block k (hS k hk).1 (hS k hk).2⟩
theorem Kept.mono {S S' : Nat → Prop} {w w' : World} (h : Kept S w w') (hS : ∀ k, S' k → S k) : Kept S' w w' := ⟨h.os, h.tape, h.output, h.size, fun k hk => h.block k (hS k hk)⟩
theorem Kept.below {B : Nat} {w w' : World} (h : Kept (fun k => k < B) w w') : Below B w w' := ⟨h.os, h.tape, h.output, h.size, h.block⟩
theorem Kept.ofBelow {B : Nat} {w w' : World} (h : Below B w w') : Kept (fun k => k < B) w w' := ⟨h.os, h.tape, h.output, h.size, h.block⟩

/-- A block that is known lies there. -/
theorem lt_of_heap {w : World} {b : Nat} {o : Obj} (h : w.heap[b]? = some o) : b < w.heap.size := by
  rcases Nat.lt_or_ge b w.heap.size with h' | h'
  · exact h'
  · rw [Array.getElem?_eq_none h'] at h; cases h

theorem heap_drewN (w : World) (n : Nat) : (w.drewN n).heap = w.heap := rfl

/-- A row of conversions as an array: two cells each. -/
def Row2 (c : Array Value) (n : Nat) (f : Nat → Int × Int) : Prop :=
  c.size = n * 2 ∧ ∀ i, i < n → c[i * 2]? = some (.int .i32 (f i).1) ∧ c[i * 2 + 1]? = some (.int .u8 (f i).2)
def Conv (w : World) (b n : Nat) (f : Nat → Int × Int) : Prop := ∃ c, w.heap[b]? = some (.cells c 31 (0, 0)) ∧ Row2 c n f

/-- A row of marks as an array: three cells each; the middle one is 'g'. -/
def Row3 (c : Array Value) (n : Nat) (g : Nat → Int) : Prop :=
  c.size = n * 3 ∧ ∀ i, i < n → c[i * 3]? = some (.int .i64 i) ∧ c[i * 3 + 1]? = some (.int .i64 (g i)) ∧ c[i * 3 + 2]? = some (.int .u64 ((i : Int) + 1))
def Marks (w : World) (b n : Nat) (g : Nat → Int) : Prop := ∃ c, w.heap[b]? = some (.cells c 35 (0, 0)) ∧ Row3 c n g

def upd {α : Type} (f : Nat → α) (k : Nat) (v : α) : Nat → α := fun i => if i = k then v else f i

theorem row2_set {c : Array Value} {n k : Nat} {f : Nat → Int × Int} (h : Row2 c n f) (hk : k < n) (x y : Int) :
    Row2 ((c.setIfInBounds (k * 2) (.int .i32 x)).setIfInBounds (k * 2 + 1) (.int .u8 y)) n (upd f k (x, y)) := by
  refine ⟨by simp [h.1], fun i hi => ?_⟩
  have hs := h.1
  obtain ⟨d0, d1⟩ := h.2 i hi
  simp only [Array.getElem?_setIfInBounds, Array.size_setIfInBounds, upd]
  by_cases e : i = k
  · subst e
    simp only [if_true]
    refine ⟨?_, ?_⟩
    all_goals (repeat (rw [if_neg (by omega)]))
    all_goals (repeat (rw [if_pos (by omega)]))
  · rw [if_neg e]
    refine ⟨?_, ?_⟩
    all_goals (repeat (rw [if_neg (by omega)]))
    all_goals assumption

theorem row3_set {c : Array Value} {n k : Nat} {g : Nat → Int} (h : Row3 c n g) (hk : k < n) (x : Int) :
    Row3 (c.setIfInBounds (k * 3 + 1) (.int .i64 x)) n (upd g k x) := by
  refine ⟨by simp [h.1], fun i hi => ?_⟩
  have hs := h.1
  obtain ⟨d0, d1, d2⟩ := h.2 i hi
  simp only [Array.getElem?_setIfInBounds, upd]
  by_cases e : i = k
  · subst e
    simp only [if_true]
    refine ⟨?_, ?_, ?_⟩
    · rw [if_neg (by omega)]; exact d0
    · rw [if_pos (by omega)]
    · rw [if_neg (by omega)]; exact d2
  · rw [if_neg e]
    refine ⟨?_, ?_, ?_⟩
    all_goals (rw [if_neg (by omega)])
    all_goals assumption

theorem Conv.of_heap {w w' : World} {b n : Nat} {f : Nat → Int × Int} (h : Conv w b n f) (e : w'.heap[b]? = w.heap[b]?) : Conv w' b n f := by
  obtain ⟨c, hc, hr⟩ := h; exact ⟨c, e.trans hc, hr⟩
theorem Marks.of_heap {w w' : World} {b n : Nat} {g : Nat → Int} (h : Marks w b n g) (e : w'.heap[b]? = w.heap[b]?) : Marks w' b n g := by
  obtain ⟨c, hc, hr⟩ := h; exact ⟨c, e.trans hc, hr⟩
theorem Conv.lt {w : World} {b n : Nat} {f : Nat → Int × Int} (h : Conv w b n f) : b < w.heap.size := by obtain ⟨c, hc, _⟩ := h; exact lt_of_heap hc
theorem Marks.lt {w : World} {b n : Nat} {g : Nat → Int} (h : Marks w b n g) : b < w.heap.size := by obtain ⟨c, hc, _⟩ := h; exact lt_of_heap hc
theorem Conv.cell {w : World} {b n i : Nat} {f : Nat → Int × Int} (h : Conv w b n f) (hi : i < n) :
    w.cell? ⟨b, i * 2, none⟩ = some (.int .i32 (f i).1) ∧ w.cell? ⟨b, i * 2 + 1, none⟩ = some (.int .u8 (f i).2) ∧ w.frozen? ⟨b, i * 2, none⟩ = false ∧ w.frozen? ⟨b, i * 2 + 1, none⟩ = false := by
  obtain ⟨c, hc, hr⟩ := h
  obtain ⟨d0, d1⟩ := hr.2 i hi
  exact ⟨(cell_of_row _ _ _ _ _ _ hc).trans d0, (cell_of_row _ _ _ _ _ _ hc).trans d1, frozen_of_row _ _ _ _ _ hc, frozen_of_row _ _ _ _ _ hc⟩
theorem Marks.cell {w : World} {b n i : Nat} {g : Nat → Int} (h : Marks w b n g) (hi : i < n) :
    w.cell? ⟨b, i * 3, none⟩ = some (.int .i64 i) ∧ w.cell? ⟨b, i * 3 + 1, none⟩ = some (.int .i64 (g i)) ∧ w.cell? ⟨b, i * 3 + 2, none⟩ = some (.int .u64 ((i : Int) + 1)) ∧ w.frozen? ⟨b, i * 3, none⟩ = false ∧ w.frozen? ⟨b, i * 3 + 1, none⟩ = false ∧ w.frozen? ⟨b, i * 3 + 2, none⟩ = false := by
  obtain ⟨c, hc, hr⟩ := h
  obtain ⟨d0, d1, d2⟩ := hr.2 i hi
  exact ⟨(cell_of_row _ _ _ _ _ _ hc).trans d0, (cell_of_row _ _ _ _ _ _ hc).trans d1, (cell_of_row _ _ _ _ _ _ hc).trans d2, frozen_of_row _ _ _ _ _ hc, frozen_of_row _ _ _ _ _ hc, frozen_of_row _ _ _ _ _ hc⟩
theorem Conv.set {w : World} {b n k : Nat} {f : Nat → Int × Int} (h : Conv w b n f) (hk : k < n) (x y : Int) :
    Conv ((w.setCell ⟨b, k * 2, none⟩ (.int .i32 x)).setCell ⟨b, k * 2 + 1, none⟩ (.int .u8 y)) b n (upd f k (x, y)) := by
  obtain ⟨c, hc, hr⟩ := h
  exact ⟨_, heap_setCell_same _ _ _ _ _ _ (heap_setCell_same _ _ _ _ _ _ hc), row2_set hr hk x y⟩
theorem Marks.set {w : World} {b n k : Nat} {g : Nat → Int} (h : Marks w b n g) (hk : k < n) (x : Int) :
    Marks (w.setCell ⟨b, k * 3 + 1, none⟩ (.int .i64 x)) b n (upd g k x) := by
  obtain ⟨c, hc, hr⟩ := h
  exact ⟨_, heap_setCell_same _ _ _ _ _ _ hc, row3_set hr hk x⟩
theorem Conv.congr {w : World} {b n : Nat} {f f' : Nat → Int × Int} (h : Conv w b n f) (e : ∀ i, i < n → f i = f' i) : Conv w b n f' := by
  obtain ⟨c, hc, hs, hr⟩ := h
  exact ⟨c, hc, hs, fun i hi => by rw [← e i hi]; exact hr i hi⟩
theorem Marks.congr {w : World} {b n : Nat} {g g' : Nat → Int} (h : Marks w b n g) (e : ∀ i, i < n → g i = g' i) : Marks w b n g' := by
  obtain ⟨c, hc, hs, hr⟩ := h
  exact ⟨c, hc, hs, fun i hi => by rw [← e i hi]; exact hr i hi⟩

/-- The bits that came in, as the law's 'keeps' reads them: KB i: bit i, false beyond the length. -/
def Bits (w : World) (a : Option Addr) (n : Nat) (KB : Nat → Bool) : Prop :=
  (∀ i, i < n → ∃ b off, a = some ⟨b, off, none⟩ ∧ w.cell? ⟨b, off + i, none⟩ = some (.bool (KB i))) ∧ ∀ i, n ≤ i → KB i = false

set_option maxHeartbeats 400000 in
/-- zzs1932akeeps. -/
theorem keeps_any (a : Option Addr) (n c : Nat) (KB : Nat → Bool) (i : Nat) (w : World) (_hn : n ≤ 1024) (_hi : i ≤ 1024) (hb : Bits w a n KB) :
    Calls Yba.prog 7 #[.slice a n c, .int .i64 i] w fun e w' => e = .returned (.bool (KB i)) ∧ w' = w := by
  by_cases h : i < n
  · obtain ⟨b, off, rfl, hc⟩ := hb.1 i h
    clear hb
    go_enter Yba.func7, Yba.ntmps7
    go_wp2
    go_ret
    exact ⟨rfl, rfl⟩
  · rw [hb.2 i (by omega)]
    clear hb
    go_enter Yba.func7, Yba.ntmps7
    go_wp2
    go_ret
    exact ⟨rfl, rfl⟩
end Go.Proofs.Ybulkamzi
