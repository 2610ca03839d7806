import Derived.Test.YbulkamxsBuild
import Derived.Deep.QuietTactic
import Derived.BigQuiet
import Derived.LaidEqlPtr
import Derived.Lib.SliceRun
namespace Go.Proofs.Ybulkamxs
open Go.RowKit

theorem Items.below {w w1 : World} {a : Option Addr} {n : Nat} {C F V : Nat → Int} (h : Items w a n C F V) (hb : Below w.heap.size w w1) : Items w1 a n C F V := by
  intro i hi
  obtain ⟨b, off, ha, c0, c1, c2⟩ := h i hi
  have hl := block_lt_of_cell c0
  exact ⟨b, off, ha, (hb.cell (p := ⟨b, _, none⟩) hl).trans c0, (hb.cell (p := ⟨b, off + i * 3 + 1, none⟩) hl).trans c1, (hb.cell (p := ⟨b, off + i * 3 + 2, none⟩) hl).trans c2⟩

theorem Below.trans2 {w w1 w2 : World} (h1 : Below w.heap.size w w1) (h2 : Below w1.heap.size w1 w2) (o : Obj) : Below w.heap.size w (w2.alloc o) :=
  (h1.trans (h2.mono h1.size)).alloc (by have := h1.size; have := h2.size; omega) o
theorem first_uniq {C V : Nat → Int} {c v : Int} {j k : Nat} (m1 : Miss C V c v j) (c1 : C j = c) (v1 : V j = v) (m2 : Miss C V c v k) (c2 : C k = c) (v2 : V k = v) : j = k := by
  rcases Nat.lt_trichotomy j k with h | h | h
  · exact absurd ⟨c1, v1⟩ (m2 j h)
  · exact h
  · exact absurd ⟨c2, v2⟩ (m1 k h)

set_option maxHeartbeats 400000 in
theorem check_any (a : Option Addr) (n cap : Nat) (C F V : Nat → Int) (code vendor : Int) (w : World) (hn : n ≤ 1024) (hi : Items w a n C F V) :
    Calls Yba.prog 10 #[.slice a n cap, .int .u32 code, .int .u32 vendor] w fun e w' => e = .returned (.bool true) ∧ Below w.heap.size w w' := by
  obtain ⟨i5, g1, _⟩ := info_parts Yba.info5
  have hpe := fun (w : World) (x : Addr) => run_eql_ptr_same (P := Yba.prog) w x Yba.underlying47 g1
  have hse := fun (w : World) => Lib.run_eql_slice_nil (P := Yba.prog) w 28 5 none 0 0 0 0 Yba.underlying28
  simp only [Option.isNone_none] at hse
  clear g1
  go_enter Yba.func10, Yba.ntmps10
  go_wp2_with fail
  refine (build_any a n cap C F V w hn hi).mono ?_
  rintro e w1 ⟨rfl, hb1, hm1, ha1⟩
  have hi1 := hi.below hb1
  have HA := hid ha1
  have HB := hid hb1
  have HM := hid hm1
  clear ha1 hb1 hi hm1
  go_wp2_with fail
  go_loop [9, 10] (fun j i => ∃ k : Nat, k ≤ n ∧ i = .int .i64 k ∧ j = .int .i64 (-1) ∧ Miss C V code vendor k) (fun _ i => n - (intOf i).toNat)
  case atStart => exact ⟨0, Nat.zero_le _, rfl, rfl, fun i h => absurd h (Nat.not_lt_zero _)⟩
  case round =>
    obtain ⟨k, hk, rfl, rfl, hno⟩ := hrel
    by_cases hlt : k < n
    · obtain ⟨b, off, rfl, p0, p1, p2⟩ := hi1 k hlt
      clear hi1
      by_cases hc : C k = code
      · by_cases hv : V k = vendor
        · have HC := hid hc
          have HV := hid hv
          have ec : (C k == code) = true := by simp [hc]
          have ev : (V k == vendor) = true := by simp [hv]
          clear hc hv
          go_wp2_with fail
          refine (find_any _ _ n C F V w.heap.size code vendor w1 hn HM.out HA.out).mono ?_
          rintro e w2 ⟨hb2, h | h⟩
          · obtain ⟨j, hj, hcj, hvj, hmj, rfl⟩ := h
            have hjk : j = k := first_uniq hmj hcj hvj hno HC.out HV.out
            subst hjk
            have q0 := (hb2.cell (p := ⟨b, off + j * 3, none⟩) (block_lt_of_cell p0)).trans p0
            have q1 := (hb2.cell (p := ⟨b, off + j * 3 + 1, none⟩) (block_lt_of_cell p1)).trans p1
            have q2 := (hb2.cell (p := ⟨b, off + j * 3 + 2, none⟩) (block_lt_of_cell p2)).trans p2
            have hbl : b < w1.heap.size := block_lt_of_cell p0
            have HB2 := hid hb2
            have hz2 := hb2.size
            have hbl2 : b < w2.heap.size := by omega
            have en1 : (F j != F j) = false := by simp
            have en2 : (C j != C j) = false := by simp
            have en3 : (V j != V j) = false := by simp
            clear hcj hvj hmj hno hb2 p0 p1 p2
            go_wp2_with fail
            go_quiet (fail)
            go_wp2
            go_quiet (fail)
            go_wp2
            go_ret
            refine ⟨rfl, ?_⟩
            exact below_drewN (below_drewN (Below.trans2 HB.out HB2.out _) _) _
          · exact absurd ⟨HC.out, HV.out⟩ (h.1 k hlt)
        · have HN : Hid (¬ (C k = code ∧ V k = vendor)) := fun h => hv h.2
          have ec : (C k == code) = true := by simp [hc]
          have ev : (V k == vendor) = false := by simp [hv]
          clear hc hv
          go_wp2
          go_round
          case rel => exact ⟨k + 1, by omega, by go_num, rfl, step_no hno HN.out⟩
          case measure => simp [intOf]; omega
      · have HN : Hid (¬ (C k = code ∧ V k = vendor)) := fun h => hc h.1
        have ec : (C k == code) = false := by simp [hc]
        clear hc
        go_wp2
        go_round
        case rel => exact ⟨k + 1, by omega, by go_num, rfl, step_no hno HN.out⟩
        case measure => simp [intOf]; omega
    · have hkn : k = n := by omega
      subst hkn
      clear hi1
      go_wp2_with fail
      refine (find_any _ _ k C F V w.heap.size code vendor w1 hn HM.out HA.out).mono ?_
      rintro e w2 ⟨hb2, h | h⟩
      · obtain ⟨j, hj, hcj, hvj, hmj, rfl⟩ := h
        exact absurd ⟨hcj, hvj⟩ (hno j hj)
      · obtain ⟨hno2, rfl⟩ := h
        have HB2 := hid hb2
        clear hb2 hno2 hno
        go_wp2
        go_ret
        refine ⟨rfl, ?_⟩
        exact Below.trans2 HB.out HB2.out _
end Go.Proofs.Ybulkamxs
