import Derived.Test.YbulkamxsCheck
import Derived.Test.YbulkamxsRows
import Derived.ProofKit
import Derived.OpenShut
import Derived.ShutString
import Derived.ChangeOld
import Derived.Below
import Derived.Deep.Slices
import Derived.Deep.Strs
namespace Go.Proofs.Ybulkamxs
open Go.ChangeShapes Go.WideShapes Go.ChangeAt Go.RowKit Go.Deep

theorem Yba.cells35 : Yba.prog.cellsOf 35 = 3 := by kernel_rfl
theorem Yba.cells32 : Yba.prog.cellsOf 32 = 1 := by kernel_rfl
theorem Yba.cells5 : Yba.prog.cellsOf 5 = 1 := by kernel_rfl
theorem Yba.own : ownKnob Yba.prog.godebug = none := by kernel_rfl
theorem Yba.laidOut : laidOutB Yba.prog = true := by kernel_rfl

/-- The items' cells, off the reading of the argument. -/
theorem items_open {H : Type} {enc : TypeId × Value → H} {W : World} {base : Nat} {sp : Nat → Bool} {held : Bool} {fuel : Nat} {a0 : Option Addr} {len cap : Nat} {cs : List Value} {x : DataW H × List MemPlace}
    (hf : DataW.trod enc Yba.prog W base sp held fuel 31 cs = some x) (hcs : cs = [.slice a0 len cap]) :
    ∃ C F V : Nat → Int, Items W a0 len C F V := by
  rcases open_slice Yba.underlying31 hf with ⟨h, _⟩ | ⟨a, len', cap', m, n, D, Pl, h, _, hl, _, hm, _, hx⟩
  · rw [h] at hcs
    simp at hcs
    obtain ⟨_, hl, _⟩ := hcs
    exact ⟨fun _ => 0, fun _ => 0, fun _ => 0, fun i hi => absurd hi (by omega)⟩
  · rw [h] at hcs
    simp at hcs
    obtain ⟨rfl, rfl, rfl⟩ := hcs
    have hlm : len' ≤ m := by rw [hm]; split <;> omega
    have each : ∀ i, i < len' → ∃ q : Int × Int × Int, ∃ b off, (some a : Option Addr) = some ⟨b, off, none⟩ ∧ W.cell? ⟨b, off + i * 3, none⟩ = some (.int .u32 q.1) ∧ W.cell? ⟨b, off + i * 3 + 1, none⟩ = some (.int .u8 q.2.1) ∧ W.cell? ⟨b, off + i * 3 + 2, none⟩ = some (.int .u32 q.2.2) := by
      intro i hi
      obtain ⟨cs', h1, h2⟩ := hx i (by omega)
      rw [Yba.cells35] at h1
      obtain ⟨_, hlen, hcell⟩ := World.cells?_some h1
      obtain ⟨y0, y1, y2, n', _, _, g0, g1, g2⟩ := trod_struct3 Yba.underlying35 h2
      match cs', hlen with
      | [v0, v1, v2], _ =>
        simp only [Yba.cells32, Yba.cells5] at g0 g1 g2
        simp at g0 g1 g2
        obtain ⟨n0, e0, _, _⟩ := DataW.trod_int Yba.underlying32 g0
        obtain ⟨n1, e1, _, _⟩ := DataW.trod_int Yba.underlying5 g1
        obtain ⟨n2, e2, _, _⟩ := DataW.trod_int Yba.underlying32 g2
        simp at e0 e1 e2
        subst e0 e1 e2
        have c0 := hcell 0 (by omega)
        have c1 := hcell 1 (by omega)
        have c2 := hcell 2 (by omega)
        rw [Deep.add_add] at c0 c1 c2
        obtain ⟨b, off, spot⟩ := a
        have hs : spot = none := by
          obtain ⟨cs0, k1, _⟩ := hx 0 (by omega)
          rw [Yba.cells35] at k1
          obtain ⟨_, klen, kcell⟩ := World.cells?_some k1
          match cs0, klen with
          | v :: _, _ => simpa [Addr.add] using World.cell?_spot (kcell 0 (by omega))
        subst hs
        rw [add_plain] at c0 c1 c2
        exact ⟨(n0, n1, n2), b, off, rfl, c0, c1, c2⟩
    obtain ⟨q, hq⟩ := choose_lt each
    exact ⟨fun i => (q i).1, fun i => (q i).2.1, fun i => (q i).2.2, hq⟩
end Go.Proofs.Ybulkamxs
