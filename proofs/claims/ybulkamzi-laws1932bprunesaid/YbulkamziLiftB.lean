import Derived.Test.YbulkamziEntB
import Derived.Test.YbulkamziRows
import Derived.ProofKit
import Derived.OpenShut
import Derived.ShutString
import Derived.ChangeOld
import Derived.Below
import Derived.Deep.Slices
import Derived.Deep.Strs
namespace Go.Proofs.Ybulkamzi
open Go.ChangeShapes Go.WideShapes Go.ChangeAt Go.RowKit Go.Deep
set_option linter.unusedVariables false

theorem Yba.cells91 : Yba.prog.cellsOf 91 = 3 := by kernel_rfl
theorem Yba.cells52 : Yba.prog.cellsOf 52 = 1 := by kernel_rfl
theorem Yba.cells5B : Yba.prog.cellsOf 5 = 1 := by kernel_rfl
theorem Yba.cells4B : Yba.prog.cellsOf 4 = 1 := by kernel_rfl
theorem Yba.ownB : ownKnob Yba.prog.godebug = none := by kernel_rfl
theorem Yba.laidOutB : laidOutB Yba.prog = true := by kernel_rfl

theorem list3 {α : Type} {l : List α} (h : l.length = 3) : ∃ a b c, l = [a, b, c] := by
  match l, h with
  | [a, b, c], _ => exact ⟨a, b, c, rfl⟩

/-- The law's walk, for every input. -/
def LawB : Prop := ∀ (x : Nat) (_ : x < 256) (a : Option Addr) (L cap : Nat) (spot kn : Nat → Nat) (ct : Nat → Bool) (w : World) (_ : Entries w a L spot kn ct) (_ : ∀ k, spot k < 4294967296) (_ : ∀ k, kn k < 256),
    Calls Yba.prog 4 #[.int .u8 x, .slice a L cap] w fun e w' => e = .returned (.bool true) ∧ Below w.heap.size w w'

set_option maxRecDepth 100000 in
/-- The entries' cells, off the reading of the argument. -/
theorem entries_open {H : Type} {enc : TypeId × Value → H} {W : World} {base : Nat} {sp : Nat → Bool} {held : Bool} {fuel : Nat} {a0 : Option Addr} {len cap : Nat} {cs : List Value} {x : DataW H × List MemPlace}
    (hf : DataW.trod enc Yba.prog W base sp held fuel 46 cs = some x) (hcs : cs = [.slice a0 len cap]) :
    ∃ (spot kn : Nat → Nat) (ct : Nat → Bool), Entries W a0 len spot kn ct ∧ (∀ k, spot k < 4294967296) ∧ (∀ k, kn k < 256) := by
  rcases open_slice Yba.underlying46 hf with ⟨h, _⟩ | ⟨a, len', cap', m, n, D, Pl, h, _, hl, _, hm, _, hx⟩
  · rw [h] at hcs
    simp at hcs
    obtain ⟨_, hl, _⟩ := hcs
    exact ⟨fun _ => 0, fun _ => 0, fun _ => false, fun i hi => absurd hi (by omega), fun _ => (show 0 < 4294967296 by omega), fun _ => (show 0 < 256 by omega)⟩
  · rw [h] at hcs
    simp at hcs
    obtain ⟨rfl, rfl, rfl⟩ := hcs
    have hlm : len' ≤ m := by rw [hm]; split <;> omega
    have each : ∀ i, i < len' → ∃ q : Nat × Nat × Bool, (∃ b off, (some a : Option Addr) = some ⟨b, off, none⟩ ∧ W.cell? ⟨b, off + i * 3, none⟩ = some (.int .u32 q.1) ∧ W.cell? ⟨b, off + i * 3 + 1, none⟩ = some (.int .u8 q.2.1) ∧ W.cell? ⟨b, off + i * 3 + 2, none⟩ = some (.bool q.2.2)) ∧ q.1 < 4294967296 ∧ q.2.1 < 256 := by
      intro i hi
      obtain ⟨cs', h1, h2⟩ := hx i (by omega)
      rw [Yba.cells91] at h1
      obtain ⟨_, hlen, hcell⟩ := World.cells?_some h1
      obtain ⟨y0, y1, y2, n', _, _, g0, g1, g2⟩ := trod_struct3 Yba.underlying91 h2
      obtain ⟨v0, v1, v2, rfl⟩ := list3 hlen
      simp only [Yba.cells52, Yba.cells5B, Yba.cells4B] at g0 g1 g2
      simp at g0 g1 g2
      obtain ⟨n0, e0, _, wf0⟩ := DataW.trod_int Yba.underlying52 g0
      obtain ⟨n1, e1, _, wf1⟩ := DataW.trod_int Yba.underlying5 g1
      obtain ⟨n2, e2, _⟩ := DataW.trod_bool Yba.underlying4 g2
      simp at e0 e1 e2
      subst e0 e1 e2
      have b0 := bounds_u32 wf0
      have b1 := bounds_u8 wf1
      have c0 := hcell 0 (by omega)
      have c1 := hcell 1 (by omega)
      have c2 := hcell 2 (by omega)
      rw [Deep.add_add] at c0 c1 c2
      obtain ⟨b, off, spot⟩ := a
      have hs : spot = none := by
        obtain ⟨cs0, k1, _⟩ := hx 0 (by omega)
        rw [Yba.cells91] at k1
        obtain ⟨_, klen, kcell⟩ := World.cells?_some k1
        obtain ⟨u0, u1, u2, rfl⟩ := list3 klen
        simpa [Addr.add] using World.cell?_spot (kcell 0 (by omega))
      subst hs
      rw [add_plain] at c0 c1 c2
      exact ⟨(n0.toNat, n1.toNat, n2), ⟨b, off, rfl, by rw [Int.toNat_of_nonneg (by omega)]; exact c0, by rw [Int.toNat_of_nonneg (by omega)]; exact c1, c2⟩, (show n0.toNat < 4294967296 by omega), (show n1.toNat < 256 by omega)⟩
    obtain ⟨q, hq⟩ := choose_lt each
    refine ⟨fun i => if i < len' then (q i).1 else 0, fun i => if i < len' then (q i).2.1 else 0, fun i => (q i).2.2, fun i hi => ?_, fun k => ?_, fun k => ?_⟩
    · show ∃ b off, some a = some (⟨b, off, none⟩ : Addr) ∧ W.cell? ⟨b, off + i * 3, none⟩ = some (.int .u32 ((if i < len' then (q i).1 else 0 : Nat) : Int)) ∧ W.cell? ⟨b, off + i * 3 + 1, none⟩ = some (.int .u8 ((if i < len' then (q i).2.1 else 0 : Nat) : Int)) ∧ W.cell? ⟨b, off + i * 3 + 2, none⟩ = some (.bool (q i).2.2)
      rw [if_pos hi, if_pos hi]
      exact (hq i hi).1
    · show (if k < len' then (q k).1 else 0) < 4294967296
      split
      · rename_i hk; exact (hq k hk).2.1
      · omega
    · show (if k < len' then (q k).2.1 else 0) < 256
      split
      · rename_i hk; exact (hq k hk).2.2
      · omega

namespace lawS1932BPrune
set_option maxRecDepth 100000 in
theorem lifted (walk : LawB) (os : Os) (started : os.Started) (H : Type) (enc : TypeId × Value → H) :
    ReturnsInHanded {} Yba.checked os 4 .any (Rows.lawS1932BPruneSpec.pre6 enc Yba.prog Yba.f4 Rows.lawS1932BPruneRow.domain false) (Rows.lawS1932BPruneSpec.post enc Yba.prog Yba.f4 false true false false) := by
  refine returnsInHanded_of_change (C := Yba.checked) Yba.ownB started (by kernel_rfl) Yba.func4
    (ChangeSpec.witness6 (enc := enc) (C := Yba.checked) false ⟨#[], #[.int .u8 0, .slice none 0 0], []⟩ 8 (by kernel_rfl) (by kernel_rfl) (by kernel_rfl) (by kernel_rfl)) ?_
  intro W base args ds gs before hval0 hW hcnd _
  have hval : ∀ (j : Nat) t v, Yba.f4.params[j]? = some t → args[j]? = some v → Value.okWide Yba.prog W .any base t v := hval0
  have hW' := hW
  obtain ⟨p, q, hA0, hV, rfl, hfz, hnd⟩ := hW
  have hA : DataW.TrodAll enc Yba.prog W 0 (fun _ => true) true Yba.f4.params.toList args.toList ds p := hA0
  rw [Yba.params4] at hA hval
  obtain ⟨v0, vs0, d0, ds0, p0, q0, hargs, rfl, rfl, h0, r0⟩ := trodAll_cons hA
  obtain ⟨v1, vs1, d1, ds1, p1, q1, rfl, rfl, rfl, h1, r1⟩ := trodAll_cons r0
  obtain ⟨rfl, rfl, rfl⟩ := trodAll_nil r1
  obtain rfl : args = #[v0, v1] := by cases args; simp_all
  obtain ⟨rfl, rfl⟩ := trodVars_none hV
  obtain ⟨a0, rfl, rfl, rfl, w0⟩ := open_int Yba.underlying5 (hval 0 5 v0 rfl rfl) h0
  obtain ⟨a1, len1, cap1, rfl⟩ := okWide_slice Yba.underlying46 (hval 1 46 v1 rfl rfl)
  have k1 := h1
  have lt1 : ∀ x ∈ p1, x.block < W.heap.size := by obtain ⟨m, hm⟩ := k1; exact DataW.trod_lt m _ _ _ hm
  obtain ⟨spot, kn, ct, w1, hsp, hkn⟩ : ∃ (spot kn : Nat → Nat) (ct : Nat → Bool), Entries W a1 len1 spot kn ct ∧ (∀ k, spot k < 4294967296) ∧ (∀ k, kn k < 256) := by
    obtain ⟨fuel, hf⟩ := h1
    exact entries_open (cap := cap1) hf (by simp [Value.cells])
  clear hA0 hval0
  have bx := bounds_u8 w0
  have C := walk a0.toNat (by omega) a1 len1 cap1 spot kn ct W w1 hsp hkn
  rw [Int.toNat_of_nonneg (by omega)] at C
  refine C.mono fun e W' ⟨he, bel⟩ => ?_
  subst he
  exact ⟨_, rfl, _, _, _, [], _, [], hW', trodAll_mk1 (shut_bool Yba.underlying4 _), (trodAll_cons_mk (shut_int Yba.underlying5 w0) (trodAll_cons_mk (Below.trod Yba.laidOutB (by kernel_rfl) (of_decide_eq_true (by kernel_rfl)) k1 bel lt1) trodAll_mk0)), rfl, bel.frame _, fun h => by cases h⟩

theorem over (walk : LawB) : Rows.lawS1932BPruneRow.holds Yba.pinned (OpenSpec.ofChange Rows.lawS1932BPruneSpec) :=
  OpenClaim.holds_of_wide 4 Yba.f4 rfl rfl rfl rfl rfl rfl rfl ⟨rfl, rfl, rfl, rfl, rfl⟩ rfl rfl rfl rfl rfl (by kernel_rfl) Yba.func4 (by kernel_rfl)
    (of_decide_eq_true (by kernel_rfl)) (by unfold Func.isWrapper; first | (rw [if_pos (by decide +kernel)]; kernel_rfl) | (rw [if_neg (by decide +kernel)]; exact ⟨rfl, rfl⟩))
    (fun os started H enc _ => lifted walk os started H enc)
end lawS1932BPrune
end Go.Proofs.Ybulkamzi
