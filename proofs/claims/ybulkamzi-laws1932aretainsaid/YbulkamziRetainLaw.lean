import Derived.Test.YbulkamziLawA
import Derived.Test.YbulkamziRows
import Derived.ProofKit
import Derived.OpenShut
import Derived.ShutString
import Derived.ChangeOld
import Derived.Below
import Derived.Deep.Slices
namespace Go.Proofs.Ybulkamzi
open Go.ChangeShapes Go.WideShapes Go.ChangeAt Go.RowKit Go.Deep

theorem Yba.cells28 : Yba.prog.cellsOf 28 = 2 := by kernel_rfl
theorem Yba.cells21 : Yba.prog.cellsOf 21 = 1 := by kernel_rfl
theorem Yba.cells5 : Yba.prog.cellsOf 5 = 1 := by kernel_rfl
theorem Yba.cells4 : Yba.prog.cellsOf 4 = 1 := by kernel_rfl
theorem Yba.own : ownKnob Yba.prog.godebug = none := by kernel_rfl
theorem Yba.laidOut : laidOutB Yba.prog = true := by kernel_rfl

theorem list2 {α : Type} {l : List α} (h : l.length = 2) : ∃ a b, l = [a, b] := by
  match l, h with
  | [a, b], _ => exact ⟨a, b, rfl⟩
section
variable {H : Type} {enc : TypeId × Value → H} {W : World} {base : Nat} {sp : Nat → Bool} {held : Bool} {fuel : Nat} {a0 : Option Addr} {len cap : Nat} {cs : List Value} {x : DataW H × List MemPlace}

set_option maxRecDepth 100000 in
/-- The conversions' cells, off the reading of the argument. -/
theorem convs_open (hf : DataW.trod enc Yba.prog W base sp held fuel 22 cs = some x) (hcs : cs = [.slice a0 len cap]) : ∃ f : Nat → Int × Int, Convs W a0 len f := by
  rcases open_slice Yba.underlying22 hf with ⟨h, _⟩ | ⟨a, len', cap', m, n, D, Pl, h, _, hl, _, hm, _, hx⟩
  · rw [h] at hcs
    simp at hcs
    obtain ⟨_, hl, _⟩ := hcs
    exact ⟨fun _ => (0, 0), fun i hi => absurd hi (by omega)⟩
  · rw [h] at hcs
    simp at hcs
    obtain ⟨rfl, rfl, rfl⟩ := hcs
    have hlm : len' ≤ m := by rw [hm]; split <;> omega
    have each : ∀ i, i < len' → ∃ q : Int × Int, ∃ b off, (some a : Option Addr) = some ⟨b, off, none⟩ ∧ W.cell? ⟨b, off + i * 2, none⟩ = some (.int .i32 q.1) ∧ W.cell? ⟨b, off + i * 2 + 1, none⟩ = some (.int .u8 q.2) := by
      intro i hi
      obtain ⟨cs', h1, h2⟩ := hx i (by omega)
      rw [Yba.cells28] at h1
      obtain ⟨_, hlen, hcell⟩ := World.cells?_some h1
      obtain ⟨y0, y1, n', _, _, g0, g1⟩ := trod_struct2 Yba.underlying28 h2
      obtain ⟨v0, v1, rfl⟩ := list2 hlen
      simp only [Yba.cells21, Yba.cells5] at g0 g1
      simp at g0 g1
      obtain ⟨n0, e0, _, _⟩ := DataW.trod_int Yba.underlying21 g0
      obtain ⟨n1, e1, _, _⟩ := DataW.trod_int Yba.underlying5 g1
      simp at e0 e1
      subst e0 e1
      have c0 := hcell 0 (by omega)
      have c1 := hcell 1 (by omega)
      rw [Deep.add_add] at c0 c1
      obtain ⟨b, off, spot⟩ := a
      have hs : spot = none := by
        obtain ⟨cs0, k1, _⟩ := hx 0 (by omega)
        rw [Yba.cells28] at k1
        obtain ⟨_, klen, kcell⟩ := World.cells?_some k1
        obtain ⟨u0, u1, rfl⟩ := list2 klen
        simpa [Addr.add] using World.cell?_spot (kcell 0 (by omega))
      subst hs
      rw [add_plain] at c0 c1
      exact ⟨(n0, n1), b, off, rfl, c0, c1⟩
    exact choose_lt each

/-- The steps' cells. -/
theorem steps_open (hf : DataW.trod enc Yba.prog W base sp held fuel 23 cs = some x) (hcs : cs = [.slice a0 len cap]) : ∃ g : Nat → Int, Steps W a0 len g := by
  rcases open_slice1 Yba.underlying23 Yba.cells5 hf with ⟨h, _⟩ | ⟨a, len', cap', m, n, V, D, Pl, h, _, hl, _, hm, _, hx⟩
  · rw [h] at hcs
    simp at hcs
    obtain ⟨_, hl, _⟩ := hcs
    exact ⟨fun _ => 0, fun i hi => absurd hi (by omega)⟩
  · rw [h] at hcs
    simp at hcs
    obtain ⟨rfl, rfl, rfl⟩ := hcs
    have hlm : len' ≤ m := by rw [hm]; split <;> omega
    have each : ∀ i, i < len' → ∃ q : Int, ∃ b off, (some a : Option Addr) = some ⟨b, off, none⟩ ∧ W.cell? ⟨b, off + i, none⟩ = some (.int .u8 q) ∧ 0 ≤ q ∧ q < 256 := by
      intro i hi
      obtain ⟨h1, h2⟩ := hx i (by omega)
      obtain ⟨n0, e0, _, wf⟩ := DataW.trod_int Yba.underlying5 h2
      simp at e0
      obtain ⟨b, off, spot⟩ := a
      have hs : spot = none := by simpa [Addr.add] using World.cell?_spot (hx 0 (by omega)).1
      subst hs
      rw [add_plain, e0] at h1
      have := bounds_u8 wf
      exact ⟨n0, b, off, rfl, h1, by omega, by omega⟩
    exact choose_lt each

/-- The bits' cells. -/
theorem bits_open (hf : DataW.trod enc Yba.prog W base sp held fuel 24 cs = some x) (hcs : cs = [.slice a0 len cap]) : ∃ K : Nat → Bool, Bits W a0 len K := by
  rcases open_slice1 Yba.underlying24 Yba.cells4 hf with ⟨h, _⟩ | ⟨a, len', cap', m, n, V, D, Pl, h, _, hl, _, hm, _, hx⟩
  · rw [h] at hcs
    simp at hcs
    obtain ⟨_, hl, _⟩ := hcs
    exact ⟨fun _ => false, fun i hi => absurd hi (by omega), fun _ _ => rfl⟩
  · rw [h] at hcs
    simp at hcs
    obtain ⟨rfl, rfl, rfl⟩ := hcs
    have hlm : len' ≤ m := by rw [hm]; split <;> omega
    have each : ∀ i, i < len' → ∃ q : Bool, ∃ b off, (some a : Option Addr) = some ⟨b, off, none⟩ ∧ W.cell? ⟨b, off + i, none⟩ = some (.bool q) := by
      intro i hi
      obtain ⟨h1, h2⟩ := hx i (by omega)
      obtain ⟨n0, e0, _⟩ := DataW.trod_bool Yba.underlying4 h2
      simp at e0
      obtain ⟨b, off, spot⟩ := a
      have hs : spot = none := by simpa [Addr.add] using World.cell?_spot (hx 0 (by omega)).1
      subst hs
      rw [add_plain, e0] at h1
      exact ⟨n0, b, off, rfl, h1⟩
    obtain ⟨q, hq⟩ := choose_lt each
    refine ⟨fun i => if i < len' then q i else false, fun i hi => ?_, fun i hi => if_neg (by omega)⟩
    show ∃ b off, some a = some (⟨b, off, none⟩ : Addr) ∧ W.cell? ⟨b, off + i, none⟩ = some (.bool (if i < len' then q i else false))
    rw [if_pos hi]
    exact hq i hi
end

namespace lawS1932ARetain
theorem walk (a0 a1 a2 : Option Addr) (n0 c0 n1 c1 n2 c2 : Nat) (f : Nat → Int × Int) (g : Nat → Int) (K : Nat → Bool) (x : Int) (w : World) (h0 : Convs w a0 n0 f) (h1 : Steps w a1 n1 g) (h2 : Bits w a2 n2 K) (x0 : 0 ≤ x) (x1 : x < 18446744073709551616) :
    Calls Yba.prog 3 #[.slice a0 n0 c0, .slice a1 n1 c1, .slice a2 n2 c2, .int .u64 x] w fun e w' => e = .returned (.bool true) ∧ Below w.heap.size w w' := by
  by_cases h : 1024 < n0 ∨ 1024 < n1 ∨ 1024 < n2
  · exact law_big a0 a1 a2 n0 c0 n1 c1 n2 c2 x w h
  · exact law_main a0 a1 a2 n0 c0 n1 c1 n2 c2 x f g K w (by omega) (by omega) (by omega) h0 h1 h2 x0 x1

theorem wf_u64 {x : Int} (h : (Lit.int .u64 x).wf = true) : 0 ≤ x ∧ x < 18446744073709551616 := by
  have := bounds_u64 h; omega

set_option maxRecDepth 100000 in
theorem lifted (os : Os) (started : os.Started) (H : Type) (enc : TypeId × Value → H) :
    ReturnsInHanded {} Yba.checked os 3 .any (Rows.lawS1932ARetainSpec.pre6 enc Yba.prog Yba.f3 Rows.lawS1932ARetainRow.domain false) (Rows.lawS1932ARetainSpec.post enc Yba.prog Yba.f3 false true false false) := by
  refine returnsInHanded_of_change (C := Yba.checked) Yba.own started (by kernel_rfl) Yba.func3
    (ChangeSpec.witness6 (enc := enc) (C := Yba.checked) false ⟨#[], #[.slice none 0 0, .slice none 0 0, .slice none 0 0, .int .u64 0], []⟩ 8 (by kernel_rfl) (by kernel_rfl) (by kernel_rfl) (by kernel_rfl)) ?_
  intro W base args ds gs before hval0 hW hcnd _
  have hval : ∀ (j : Nat) t v, Yba.f3.params[j]? = some t → args[j]? = some v → Value.okWide Yba.prog W .any base t v := hval0
  have hW' := hW
  obtain ⟨p, q, hA0, hV, rfl, hfz, hnd⟩ := hW
  have hA : DataW.TrodAll enc Yba.prog W 0 (fun _ => true) true Yba.f3.params.toList args.toList ds p := hA0
  rw [Yba.params3] at hA hval
  obtain ⟨v0, vs0, d0, ds0, p0, q0, hargs, rfl, rfl, h0, r0⟩ := trodAll_cons hA
  obtain ⟨v1, vs1, d1, ds1, p1, q1, rfl, rfl, rfl, h1, r1⟩ := trodAll_cons r0
  obtain ⟨v2, vs2, d2, ds2, p2, q2, rfl, rfl, rfl, h2, r2⟩ := trodAll_cons r1
  obtain ⟨v3, vs3, d3, ds3, p3, q3, rfl, rfl, rfl, h3, r3⟩ := trodAll_cons r2
  obtain ⟨rfl, rfl, rfl⟩ := trodAll_nil r3
  obtain rfl : args = #[v0, v1, v2, v3] := by cases args; simp_all
  obtain ⟨rfl, rfl⟩ := trodVars_none hV
  obtain ⟨a0, len0, cap0, rfl⟩ := okWide_slice Yba.underlying22 (hval 0 22 v0 rfl rfl)
  obtain ⟨a1, len1, cap1, rfl⟩ := okWide_slice Yba.underlying23 (hval 1 23 v1 rfl rfl)
  obtain ⟨a2, len2, cap2, rfl⟩ := okWide_slice Yba.underlying24 (hval 2 24 v2 rfl rfl)
  have k0 := h0
  have k1 := h1
  have k2 := h2
  have lt0 : ∀ x ∈ p0, x.block < W.heap.size := by obtain ⟨m, hm⟩ := k0; exact DataW.trod_lt m _ _ _ hm
  have lt1 : ∀ x ∈ p1, x.block < W.heap.size := by obtain ⟨m, hm⟩ := k1; exact DataW.trod_lt m _ _ _ hm
  have lt2 : ∀ x ∈ p2, x.block < W.heap.size := by obtain ⟨m, hm⟩ := k2; exact DataW.trod_lt m _ _ _ hm
  obtain ⟨f, w0⟩ : ∃ f, Convs W a0 len0 f := by
    obtain ⟨fuel, hf⟩ := h0
    exact convs_open (cap := cap0) hf (by simp [Value.cells])
  obtain ⟨g, w1⟩ : ∃ g, Steps W a1 len1 g := by
    obtain ⟨fuel, hf⟩ := h1
    exact steps_open (cap := cap1) hf (by simp [Value.cells])
  obtain ⟨K, w2⟩ : ∃ K, Bits W a2 len2 K := by
    obtain ⟨fuel, hf⟩ := h2
    exact bits_open (cap := cap2) hf (by simp [Value.cells])
  obtain ⟨a3, rfl, rfl, rfl, w3⟩ := open_int Yba.underlying25 (hval 3 25 v3 rfl rfl) h3
  clear hA0 hval0
  refine (walk a0 a1 a2 len0 cap0 len1 cap1 len2 cap2 f g K a3 W w0 w1 w2 (wf_u64 w3).1 (wf_u64 w3).2).mono fun e W' ⟨he, bel⟩ => ?_
  subst he
  exact ⟨_, rfl, _, _, _, [], _, [], hW', trodAll_mk1 (shut_bool Yba.underlying4 _), (trodAll_cons_mk (Below.trod Yba.laidOut (by kernel_rfl) (of_decide_eq_true (by kernel_rfl)) k0 bel lt0) (trodAll_cons_mk (Below.trod Yba.laidOut (by kernel_rfl) (of_decide_eq_true (by kernel_rfl)) k1 bel lt1)
    (trodAll_cons_mk (Below.trod Yba.laidOut (by kernel_rfl) (of_decide_eq_true (by kernel_rfl)) k2 bel lt2) (trodAll_cons_mk (shut_int Yba.underlying25 w3) trodAll_mk0)))), rfl, bel.frame _, fun h => by cases h⟩

theorem over : Rows.lawS1932ARetainRow.holds Yba.pinned (OpenSpec.ofChange Rows.lawS1932ARetainSpec) :=
  OpenClaim.holds_of_wide 3 Yba.f3 rfl rfl rfl rfl rfl rfl rfl ⟨rfl, rfl, rfl, rfl, rfl⟩ rfl rfl rfl rfl rfl (by kernel_rfl) Yba.func3 (by kernel_rfl)
    (of_decide_eq_true (by kernel_rfl)) (by unfold Func.isWrapper; first | (rw [if_pos (by decide +kernel)]; kernel_rfl) | (rw [if_neg (by decide +kernel)]; exact ⟨rfl, rfl⟩))
    (fun os started H enc _ => lifted os started H enc)
end lawS1932ARetain

/-- THE STATEMENT. -/
theorem retain_proved : Rows.LawS1932ARetainSaid := lawS1932ARetain.over
end Go.Proofs.Ybulkamzi
