import Derived.Test.YbulkamziEntB
namespace Go.Proofs.Ybulkamzi
open Go.RowKit
set_option linter.unusedVariables false

/-! ### The law's text, from its n-th statement on -/
def rt : Code → Code | .seq _ b => b | c => c
def rtn : Nat → Code → Code | 0, c => c | n + 1, c => rtn n (rt c)
noncomputable def body4 : Code := match Yba.f4.body with | some c => c | none => .skip
/-- What the law must come to. -/
def Post4 (w0 : World) : Exit → Act → World → Prop := bodyPost Yba.prog Yba.f4 fun e w' => e = .returned (.bool true) ∧ Below w0.heap.size w0 w'

/-- What stands behind prune. -/
structure Aft (w0 w5 : World) (a : Option Addr) (L B k n f : Nat) (rb spot kn kd : Nat → Nat) (ct : Nat → Bool) (ln : Nat → Option Addr) (R5 : Nat → Option Nat) : Prop where
  he : Entries w0 a L spot kn ct
  hB : B = w0.heap.size
  hkL : k ≤ L
  hk32 : k ≤ 32
  hL : L ≤ 1024
  hsp : ∀ k, spot k < 4294967296
  hkn : ∀ k, kn k < 256
  hkd : ∀ k, kd k = kn k % 4
  hn : Pow n
  hf : f < n
  done : Done w5 B k n f rb spot kd ct ln R5
  b5 : Below B w0 w5
  row : RowQ w5 (B + 3) k k 61 (fun j => .pointer (some ⟨rb j, 0, none⟩))
  inj : ∀ i j, i < k → j < k → rb i = rb j → i = j
  rbs : ∀ j, j < k → rb j < w5.heap.size

theorem Aft.size {w0 w5 : World} {a : Option Addr} {L B k n f : Nat} {rb spot kn kd : Nat → Nat} {ct : Nat → Bool} {ln : Nat → Option Addr} {R5 : Nat → Option Nat} (A : Aft w0 w5 a L B k n f rb spot kn kd ct ln R5) : B + 3 < w5.heap.size := by
  obtain ⟨c, hc, _⟩ := A.row
  exact (Array.getElem?_eq_some_iff.mp hc).1
theorem Aft.entry {w0 w5 w : World} {a : Option Addr} {L B k n f : Nat} {rb spot kn kd : Nat → Nat} {ct : Nat → Bool} {ln : Nat → Option Addr} {R5 : Nat → Option Nat} (A : Aft w0 w5 a L B k n f rb spot kn kd ct ln R5) (hb : Below w5.heap.size w5 w) (i : Nat) (hi : i < k) :
    ∃ b off, a = some ⟨b, off, none⟩ ∧ w.cell? ⟨b, off + i * 3, none⟩ = some (.int .u32 (spot i : Nat)) ∧ w.cell? ⟨b, off + i * 3 + 1, none⟩ = some (.int .u8 (kn i : Nat)) ∧ w.cell? ⟨b, off + i * 3 + 2, none⟩ = some (.bool (ct i)) := by
  obtain ⟨b, off, rfl, c0, c1, c2⟩ := A.he i (by have := A.hkL; omega)
  have hbB : b < B := by rw [A.hB]; exact block_lt_of_cell c0
  have h5 := A.size
  have hb5 : b < w5.heap.size := by omega
  exact ⟨b, off, rfl, (hb.cell (p := ⟨b, off + i * 3, none⟩) hb5).trans ((A.b5.cell (p := ⟨b, off + i * 3, none⟩) hbB).trans c0), (hb.cell (p := ⟨b, off + i * 3 + 1, none⟩) hb5).trans ((A.b5.cell (p := ⟨b, off + i * 3 + 1, none⟩) hbB).trans c1),
    (hb.cell (p := ⟨b, off + i * 3 + 2, none⟩) hb5).trans ((A.b5.cell (p := ⟨b, off + i * 3 + 2, none⟩) hbB).trans c2)⟩
theorem Aft.tab {w0 w5 w : World} {a : Option Addr} {L B k n f : Nat} {rb spot kn kd : Nat → Nat} {ct : Nat → Bool} {ln : Nat → Option Addr} {R5 : Nat → Option Nat} (A : Aft w0 w5 a L B k n f rb spot kn kd ct ln R5) (hb : Below w5.heap.size w5 w) :
    Tab w (B + 1) B n rb spot R5 :=
  A.done.tab.below hb (by have := A.size; omega) (by have := A.size; omega) (fun p i hp hi => A.rbs i (A.done.mem p i hp hi))
theorem Aft.res {w0 w5 w : World} {a : Option Addr} {L B k n f : Nat} {rb spot kn kd : Nat → Nat} {ct : Nat → Bool} {ln : Nat → Option Addr} {R5 : Nat → Option Nat} (A : Aft w0 w5 a L B k n f rb spot kn kd ct ln R5) (hb : Below w5.heap.size w5 w) (i : Nat) (hi : i < k) :
    w.cell? ⟨B + 3, i, none⟩ = some (.pointer (some ⟨rb i, 0, none⟩)) := (hb.cell (p := ⟨B + 3, i, none⟩) A.size).trans (A.row.cell hi)
theorem Aft.eql {w0 w5 w : World} {a : Option Addr} {L B k n f : Nat} {rb spot kn kd : Nat → Nat} {ct : Nat → Bool} {ln : Nat → Option Addr} {R5 : Nat → Option Nat} (A : Aft w0 w5 a L B k n f rb spot kn kd ct ln R5) (hb : Below w5.heap.size w5 w) (i j : Nat) (hi : i < k) (hj : j < k) :
    (binOp .eql 61 (.pointer (some ⟨rb i, 0, none⟩)) (.pointer (some ⟨rb j, 0, none⟩))).run Yba.prog w = .ok (.bool (decide (i = j))) w :=
  eql_res k rb w A.inj (fun q hq => by
    obtain ⟨c, hc, _⟩ := A.done.res q hq
    exact ⟨c, (hb.block _ (A.rbs q hq)).trans hc⟩) i j hi hj
theorem Aft.end {w0 w5 w : World} {a : Option Addr} {L B k n f : Nat} {rb spot kn kd : Nat → Nat} {ct : Nat → Bool} {ln : Nat → Option Addr} {R5 : Nat → Option Nat} (A : Aft w0 w5 a L B k n f rb spot kn kd ct ln R5) (hb : Below w5.heap.size w5 w) : Below w0.heap.size w0 w := by
  have h := A.b5.trans (hb.mono (by have := A.size; omega : B ≤ w5.heap.size))
  rw [A.hB] at h; exact h
theorem below_drewB {B : Nat} {a w : World} (h : Below B a w) (q : Nat) : Below B a (w.drewN q) := ⟨h.os, h.tape, h.output, h.size, h.block⟩
end Go.Proofs.Ybulkamzi
