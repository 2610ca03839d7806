import Derived.Test.YbulkamziOccB
namespace Go.Proofs.Ybulkamzi
open Go.RowKit
set_option linter.unusedVariables false
set_option linter.unusedSimpArgs false

set_option maxRecDepth 100000 in
/-- slices.Index, of a number that is there. -/
theorem index_walk (sb h c v : Nat) (tg : Nat → Nat) (hh : h ≤ 31) (w : World) (hc : ∀ i, i < h → w.cell? ⟨sb, 9 + i, none⟩ = some (.int .u16 (tg i : Nat))) (i0 : Nat) (hi0 : i0 < h) (hv : tg i0 = v) :
    Calls Yba.prog 60 #[.slice (some ⟨sb, 9, none⟩) h c, .int .u16 v] w fun e w' => ∃ i : Nat, e = .returned (.int .i64 i) ∧ w' = w := by
  have HC := hidB hc
  have HV := hidB hv
  clear hc hv
  go_enter Yba.func60, Yba.ntmps60
  go_wp2
  go_loopw [8] (fun jv wr => ∃ p : Nat, p ≤ i0 ∧ jv = .int .i64 p ∧ wr = w) (fun jv _ => i0 - (intOf jv).toNat)
  case atStart => exact ⟨0, by omega, rfl, rfl⟩
  case round =>
    obtain ⟨p, hp, rfl, rfl⟩ := hrel
    have c1 := HC.out p (by omega)
    by_cases e : tg p = v
    · have e1 : ((v : Int) == ((tg p : Nat) : Int)) = true := by simp; omega
      obtain ⟨y, ey⟩ : ∃ y : Int, y = ((tg p : Nat) : Int) := ⟨_, rfl⟩
      rw [← ey] at c1 e1
      clear e ey
      go_wp2
      go_ret
      exact ⟨p, rfl, rfl⟩
    · have e1 : ((v : Int) == ((tg p : Nat) : Int)) = false := by simp; omega
      have hne : p ≠ i0 := fun e' => by subst e'; exact e HV.out
      obtain ⟨y, ey⟩ : ∃ y : Int, y = ((tg p : Nat) : Int) := ⟨_, rfl⟩
      rw [← ey] at c1 e1
      clear e ey
      go_wp2
      go_roundw
      case rel => exact ⟨p + 1, by omega, by go_num, trivial⟩
      case measure => simp [intOf]; omega
theorem contains_walk (sb h c v : Nat) (tg : Nat → Nat) (hh : h ≤ 31) (w : World) (hc : ∀ i, i < h → w.cell? ⟨sb, 9 + i, none⟩ = some (.int .u16 (tg i : Nat))) (i0 : Nat) (hi0 : i0 < h) (hv : tg i0 = v) :
    Calls Yba.prog 38 #[.slice (some ⟨sb, 9, none⟩) h c, .int .u16 v] w fun e w' => e = .returned (.bool true) ∧ w' = w := by
  have L := hidB (index_walk sb h c v tg hh w hc i0 hi0 hv)
  clear hc hv
  go_enter Yba.func38, Yba.ntmps38
  go_wp2_with (go_at_call 60; refine L.out.mono ?_; rintro e w6 ⟨i, rfl, rfl⟩)
  go_ret
  exact ⟨rfl, rfl⟩
set_option maxRecDepth 100000 in
/-- (*ghosts).has, of a tag that is remembered. -/
theorem hasTag_walk (sb h v : Nat) (tg : Nat → Nat) (hh : h ≤ 31) (w : World) (hc : ∀ i, i < h → w.cell? ⟨sb, 9 + i, none⟩ = some (.int .u16 (tg i : Nat))) (h41 : w.cell? ⟨sb, 41, none⟩ = some (.int .u8 h)) (i0 : Nat) (hi0 : i0 < h) (hv : tg i0 = v) :
    Calls Yba.prog 16 #[.pointer (some ⟨sb, 9, none⟩), .int .u16 v] w fun e w' => e = .returned (.bool true) ∧ w' = w.drew := by
  have L := hidB (contains_walk sb h 31 v tg hh w.drew hc i0 hi0 hv)
  have hal : Yba.prog.arrayLen 75 = 31 := by kernel_rfl
  have hh1 : (h : Int) ≤ (Yba.prog.arrayLen 75 : Int) := by rw [hal]; omega
  have hh0 : (0 : Int) ≤ (h : Int) := by omega
  have SL : ∀ w : World, (Instr.sliceAt 75 (.pointer (some ⟨sb, 9, none⟩)) none (some (.int .u8 h)) none).run Yba.prog w = .ok (.slice (some ⟨sb, 9, none⟩) h 31) w := fun w => by
    have hel : Yba.prog.elem 75 = 74 := by kernel_rfl
    obtain ⟨j, hj, hjs⟩ := Yba.infoSome (t := 74) (k := 1) (by kernel_rfl)
    rw [run_sliceAt_array_h w 75 ⟨sb, 9, none⟩ (by rw [Yba.underlying75]; kernel_rfl) .u8 h hh0 hh1, hel, hal]
    simp [sizeOf, typeInfo, hj, hjs, slicedAt, Result.andThen, Addr.add]
  clear hc hv hh1 hh0 hal
  go_enter Yba.func16, Yba.ntmps16
  go_wp2
  go_region_with (go_at_call 38; refine L.out.mono ?_; rintro e w6 ⟨rfl, rfl⟩)
  all_goals
    go_wp2
    go_ret
    exact ⟨rfl, rfl⟩
end Go.Proofs.Ybulkamzi
