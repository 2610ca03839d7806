import Derived.Test.YbulkamziResB
import Derived.BigRegion
namespace Go.Proofs.Ybulkamzi
open Go.RowKit
set_option linter.unusedVariables false
set_option linter.unusedSimpArgs false

def tagN (s : Nat) : Nat := max (s / 65536) 1

/-- What the walk knows of the shard: its ghosts' tags, next and held, and idle. -/
def Sh (w : World) (sb : Nat) (tg : Nat → Nat) (gn gh : Nat) (idle : Int) : Prop :=
  ∃ c, w.heap[sb]? = some (.cells c 88 (0, 0)) ∧ 74 ≤ c.size ∧ (∀ i, i < 31 → c[9 + i]? = some (.int .u16 (tg i : Nat))) ∧ c[40]? = some (.int .u8 (gn : Nat)) ∧ c[41]? = some (.int .u8 (gh : Nat)) ∧ c[73]? = some (.int .i64 idle)
theorem Sh.of_heap {w w' : World} {sb : Nat} {tg : Nat → Nat} {gn gh : Nat} {idle : Int} (h : Sh w sb tg gn gh idle) (e : w'.heap[sb]? = w.heap[sb]?) : Sh w' sb tg gn gh idle := by
  obtain ⟨c, h1, h2⟩ := h; exact ⟨c, e.trans h1, h2⟩
theorem Sh.frozen {w : World} {sb : Nat} {tg : Nat → Nat} {gn gh : Nat} {idle : Int} (h : Sh w sb tg gn gh idle) (o : Nat) : w.frozen? ⟨sb, o, none⟩ = false := by
  obtain ⟨c, h1, _⟩ := h; exact frozen_of_row _ _ _ _ _ h1
theorem Sh.cells {w : World} {sb : Nat} {tg : Nat → Nat} {gn gh : Nat} {idle : Int} (h : Sh w sb tg gn gh idle) :
    (∀ i, i < 31 → w.cell? ⟨sb, 9 + i, none⟩ = some (.int .u16 (tg i : Nat))) ∧ w.cell? ⟨sb, 40, none⟩ = some (.int .u8 (gn : Nat)) ∧ w.cell? ⟨sb, 41, none⟩ = some (.int .u8 (gh : Nat)) ∧ w.cell? ⟨sb, 73, none⟩ = some (.int .i64 idle) := by
  obtain ⟨c, h1, h2, h3, h4, h5, h6⟩ := h
  simp only [cell_of_row w sb _ c _ _ h1]
  exact ⟨h3, h4, h5, h6⟩

/-- The world behind ghosts.put. -/
def ghostPut (w : World) (sb gn : Nat) (tag gn' gh' : Int) : World := ((w.setCell ⟨sb, 9 + gn, none⟩ (.int .u16 tag)).setCell ⟨sb, 40, none⟩ (.int .u8 gn')).setCell ⟨sb, 41, none⟩ (.int .u8 gh')
theorem Sh.put {w : World} {sb : Nat} {tg : Nat → Nat} {gn gh : Nat} {idle : Int} (h : Sh w sb tg gn gh idle) (hg : gn < 31) (tag gn' gh' : Nat) :
    Sh (ghostPut w sb gn tag gn' gh') sb (updB tg gn tag) gn' gh' idle := by
  obtain ⟨c, h1, h2, h3, h4, h5, h6⟩ := h
  refine ⟨_, heap_setCell_same _ _ _ _ _ _ (heap_setCell_same _ _ _ _ _ _ (heap_setCell_same _ _ _ _ _ _ h1)), by simp; exact h2, fun i hi => ?_, ?_, ?_, ?_⟩
  · simp only [Array.getElem?_setIfInBounds, Array.size_setIfInBounds]
    rw [if_neg (by omega), if_neg (by omega)]
    by_cases e : i = gn
    · subst e; rw [if_pos rfl, if_pos (by omega), updB_same]
    · rw [if_neg (by omega), updB_other _ _ _ _ e]; exact h3 i hi
  · simp only [Array.getElem?_setIfInBounds, Array.size_setIfInBounds]
    rw [if_neg (by omega), if_pos trivial, if_pos (by omega)]
  · simp only [Array.getElem?_setIfInBounds, Array.size_setIfInBounds]
    rw [if_pos trivial, if_pos (by omega)]
  · simp only [Array.getElem?_setIfInBounds, Array.size_setIfInBounds]
    rw [if_neg (by omega), if_neg (by omega), if_neg (by omega)]; exact h6
theorem Sh.idle {w : World} {sb : Nat} {tg : Nat → Nat} {gn gh : Nat} {idle : Int} (h : Sh w sb tg gn gh idle) (y : Int) : Sh (w.setCell ⟨sb, 73, none⟩ (.int .i64 y)) sb tg gn gh y := by
  obtain ⟨c, h1, h2, h3, h4, h5, h6⟩ := h
  refine ⟨_, heap_setCell_same _ _ _ _ _ _ h1, by simp; exact h2, fun i hi => ?_, ?_, ?_, ?_⟩ <;> simp only [Array.getElem?_setIfInBounds, Array.size_setIfInBounds]
  · rw [if_neg (by omega)]; exact h3 i hi
  · rw [if_neg (by omega)]; exact h4
  · rw [if_neg (by omega)]; exact h5
  · rw [if_pos trivial, if_pos (by omega)]

theorem ret_u16 {x r : Int} (h : r = x) : Ending.returned (.int .u16 x) = Ending.returned (.int .u16 r) := by rw [h]
/-- tagOf. -/
theorem tagOf_walk (s : Nat) (hs : s < 4294967296) (w : World) : Calls Yba.prog 17 #[.int .u32 s] w fun e w' => e = .returned (.int .u16 (tagN s : Nat)) ∧ w' = w := by
  obtain ⟨q, hq⟩ : ∃ q : Nat, q = s / 65536 := ⟨_, rfl⟩
  have e1 : (s : Int) / 65536 = (q : Int) := by omega
  have hq2 : q < 65536 := by omega
  unfold tagN
  rw [← hq]
  clear hq
  go_enter Yba.func17, Yba.ntmps17
  go_wp2
  all_goals go_ret
  all_goals exact ⟨ret_u16 (by omega), rfl⟩

set_option maxRecDepth 100000 in
/-- (*ghosts).put. -/
theorem ghostPut_walk (sb : Nat) (tg : Nat → Nat) (gn gh : Nat) (idle : Int) (tag : Nat) (hgn : gn < 31) (hgh : gh ≤ 31) (w : World) (h : Sh w sb tg gn gh idle) :
    Calls Yba.prog 57 #[.pointer (some ⟨sb, 9, none⟩), .int .u16 tag] w fun e w' => e = .returned (.tuple #[]) ∧ w' = (ghostPut w sb gn tag ((gn + 1) % 31 : Nat) (min (gh + 1) 31 : Nat)).drew := by
  obtain ⟨c0, c1, c2, c3⟩ := h.cells
  have c0' := c0 gn hgn
  have f0 := h.frozen (9 + gn)
  have f1 := h.frozen 40
  have f2 := h.frozen 41
  clear c0 c3 h
  go_enter Yba.func57, Yba.ntmps57
  go_wp2
  go_region
  go_wp2
  all_goals go_end0
  all_goals refine ⟨rfl, ?_⟩
  · rw [show min (gh + 1) 31 = 31 by omega]; rfl
  · rw [show min (gh + 1) 31 = gh + 1 by omega]; rfl

/-- (*Int64).Add, Load. -/
theorem i64_add (b o : Nat) (x y s : Int) (w : World) (hc : w.cell? ⟨b, o, none⟩ = some (.int .i64 x)) (hz : w.frozen? ⟨b, o, none⟩ = false) (hs : (Op.intArith .add .i64 x y).run Yba.prog w = .ok (.int .i64 s) w) :
    Calls Yba.prog 36 #[.pointer (some ⟨b, o, none⟩), .int .i64 y] w fun e w' => e = .returned (.int .i64 s) ∧ w' = w.setCell ⟨b, o, none⟩ (.int .i64 s) := by
  have hl := run_call_add (P := Yba.prog) Yba.func59 (by kernel_rfl) (by kernel_rfl) (by kernel_rfl) .i64 (by kernel_rfl) hc hz hs
  clear hs
  go_enter Yba.func36, Yba.ntmps36
  go_wp2
  go_ret
  exact ⟨rfl, rfl⟩
theorem i64_load (b o : Nat) (x : Int) (w : World) (hc : w.cell? ⟨b, o, none⟩ = some (.int .i64 x)) :
    Calls Yba.prog 15 #[.pointer (some ⟨b, o, none⟩)] w fun e w' => e = .returned (.int .i64 x) ∧ w' = w := by
  have hl := run_call_load (P := Yba.prog) Yba.func37 (by kernel_rfl) (by kernel_rfl) (by kernel_rfl) .i64 (by kernel_rfl) hc
  go_enter Yba.func15, Yba.ntmps15
  go_wp2
  go_ret
  exact ⟨rfl, rfl⟩
theorem add_idle (u : Nat) (hu : u ≤ 1024) (w : World) : (Op.intArith .add .i64 0 (-(u : Int))).run Yba.prog w = .ok (.int .i64 (-(u : Int))) w := by
  have : IntKind.i64.wrap (-(u : Int)) = -(u : Int) := by rw [IntKind.wrap_i64]; omega
  simp [Op.intArith, this]
end Go.Proofs.Ybulkamzi
