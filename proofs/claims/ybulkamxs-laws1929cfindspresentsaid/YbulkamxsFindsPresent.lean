import Derived.Test.YbulkamxsOpen
import Derived.Deep.RegionWith
namespace Go.Proofs.Ybulkamxs.lawS1929CFindsPresent
open Go.ChangeShapes Go.WideShapes Go.ChangeAt Go.RowKit
open Go.ChangeMaps (open_string shut_string)

set_option maxHeartbeats 400000 in
theorem walk (a0 : Option Addr) (len cap : Nat) (C F V : Nat → Int) (sel : Int) (w : World) (w0 : Items w a0 len C F V) (s0 : 0 ≤ sel) (s1 : sel < 4294967296) :
    Calls Yba.prog 6 #[.slice a0 len cap, .int .u32 sel] w fun e w' => e = .returned (.bool true) ∧ Below w.heap.size w w' := by
  by_cases hl : 1024 < len
  · go_enter Yba.func6, Yba.ntmps6
    go_wp2
    go_ret
    exact ⟨rfl, Below.refl _ _⟩
  · by_cases hz : len = 0
    · subst hz
      go_enter Yba.func6, Yba.ntmps6
      go_wp2
      go_ret
      exact ⟨rfl, Below.refl _ _⟩
    · have hz' : ((len : Int) == 0) = false := by simp; omega
      have hlp : 0 < len := by omega
      clear hz
      obtain ⟨k, hkl, hk⟩ : ∃ k : Nat, k < len ∧ sel % (len : Int) = (k : Int) :=
        ⟨(sel % (len : Int)).toNat, by have := Int.emod_lt_of_pos sel (show (0 : Int) < len by omega); have := Int.emod_nonneg sel (show (len : Int) ≠ 0 by omega); omega, by have := Int.emod_nonneg sel (show (len : Int) ≠ 0 by omega); omega⟩
      obtain ⟨b, off, rfl, c0, c1, c2⟩ := w0 k hkl
      have W0 := hid w0
      clear w0
      go_enter Yba.func6, Yba.ntmps6
      go_wp2
      go_region_with (go_at_call 10; refine (check_any _ len cap C F V _ _ _ (by omega) ?_).mono ?_; exact W0.out; rintro e w1 ⟨rfl, hb⟩)
      all_goals (go_wp2; go_ret; exact ⟨rfl, (Below.refl w.heap.size w).drew.trans hb⟩)

theorem wf_u32 {x : Int} (h : (Lit.int .u32 x).wf = true) : 0 ≤ x ∧ x < 4294967296 := by
  have := bounds_u32 h; omega
set_option maxRecDepth 100000 in
theorem lifted (os : Os) (started : os.Started) (H : Type) (enc : TypeId × Value → H) :
    ReturnsInHanded {} Yba.checked os 6 .any (Rows.lawS1929CFindsPresentSpec.pre6 enc Yba.prog Yba.f6 Rows.lawS1929CFindsPresentRow.domain false) (Rows.lawS1929CFindsPresentSpec.post enc Yba.prog Yba.f6 false true false false) := by
  refine returnsInHanded_of_change (C := Yba.checked) Yba.own started (by kernel_rfl) Yba.func6
    (ChangeSpec.witness6 (enc := enc) (C := Yba.checked) false ⟨#[], #[.slice none 0 0, .int .u32 0], []⟩ 8 (by kernel_rfl) (by kernel_rfl) (by kernel_rfl) (by kernel_rfl)) ?_
  intro W base args ds gs before hval0 hW hcnd _
  have hval : ∀ (j : Nat) t v, Yba.f6.params[j]? = some t → args[j]? = some v → Value.okWide Yba.prog W .any base t v := hval0
  have hW' := hW
  obtain ⟨p, q, hA0, hV, rfl, hfz, hnd⟩ := hW
  have hA : DataW.TrodAll enc Yba.prog W 0 (fun _ => true) true Yba.f6.params.toList args.toList ds p := hA0
  rw [Yba.params6] at hA hval
  obtain ⟨v0, vs0, d0, ds0, p0, q0, hargs, rfl, rfl, h0, r0⟩ := trodAll_cons hA
  obtain ⟨v1, vs1, d1, ds1, p1, q1, rfl, rfl, rfl, h1, r1⟩ := trodAll_cons r0
  obtain ⟨rfl, rfl, rfl⟩ := trodAll_nil r1
  obtain rfl : args = #[v0, v1] := by cases args; simp_all
  obtain ⟨rfl, rfl⟩ := trodVars_none hV
  obtain ⟨a0, len0, cap0, rfl⟩ := okWide_slice Yba.underlying31 (hval 0 31 v0 rfl rfl)
  have k0 := h0
  have lt0 : ∀ x ∈ p0, x.block < W.heap.size := by obtain ⟨m, hm⟩ := k0; exact DataW.trod_lt m _ _ _ hm
  obtain ⟨C, F, V, w0⟩ : ∃ C F V, Items W a0 len0 C F V := by
    obtain ⟨fuel, hf⟩ := h0
    exact items_open (cap := cap0) hf (by simp [Value.cells])
  obtain ⟨a1, rfl, rfl, rfl, w1⟩ := open_int Yba.underlying32 (hval 1 32 v1 rfl rfl) h1
  clear hA0 hval0
  refine (walk a0 len0 cap0 C F V a1 W w0 (wf_u32 w1).1 (wf_u32 w1).2).mono fun e W' ⟨he, bel⟩ => ?_
  subst he
  exact ⟨_, rfl, _, _, _, [], _, [], hW', trodAll_mk1 (shut_bool Yba.underlying4 _), (trodAll_cons_mk (Below.trod Yba.laidOut (by kernel_rfl) (of_decide_eq_true (by kernel_rfl)) k0 bel lt0) (trodAll_cons_mk (shut_int Yba.underlying32 w1) trodAll_mk0)), rfl, bel.frame _, fun h => by cases h⟩

theorem over : Rows.lawS1929CFindsPresentRow.holds Yba.pinned (OpenSpec.ofChange Rows.lawS1929CFindsPresentSpec) :=
  OpenClaim.holds_of_wide 6 Yba.f6 rfl rfl rfl rfl rfl rfl rfl ⟨rfl, rfl, rfl, rfl, rfl⟩ rfl rfl rfl rfl rfl (by kernel_rfl) Yba.func6 (by kernel_rfl)
    (of_decide_eq_true (by kernel_rfl)) (by unfold Func.isWrapper; first | (rw [if_pos (by decide +kernel)]; kernel_rfl) | (rw [if_neg (by decide +kernel)]; exact ⟨rfl, rfl⟩))
    (fun os started H enc _ => lifted os started H enc)

end Go.Proofs.Ybulkamxs.lawS1929CFindsPresent
namespace Go.Proofs.Ybulkamxs
/-- THE STATEMENT. -/
theorem findsPresent_proved : Rows.LawS1929CFindsPresentSaid := lawS1929CFindsPresent.over
end Go.Proofs.Ybulkamxs
