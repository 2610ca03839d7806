/-
  No cell of these rows narrows 'for every input' (looked for: loops, veiled, ifaces, maps, wideKeys, modest, calm, conditions, laid).
  DERIVED. THE GIVEN ROWS OF THIS SEAT. 3 by the template 'for every input the law returns true; each argument reads behind the call as it read before'; 0 by the template 'total and deterministic' (their statements: YbulkamzwTotals.lean).
  GIVEN WITH THE SEED: the statements are not yours to turn. If you find one false, say at which input.
  Laid BY PROGRAM, IN A SANDBOX (cutbox-rows.mjs): the forced cells as the released guide's own fill.sh prints them over the translation 35b8864686fb179f… (all of the seat's roots in one cut). By AI agents, Wed Nov 11 2026. No macro, syntax, notation, axiom, sorry.
-/
import Derived.Test.YbulkamzwChecked
import GoSem.Claim
import GoSem.ClaimJoined
import GoSem.ClaimMapViews
import Derived.JoinedTies
import Derived.KernelRfl
namespace Go.Proofs.Ybulkamzw
/- THE CELL 'sum', in the pinned program and in every row, IS THE sha256 OF THE DUMP (.gsa) THAT YbulkamzwProg.lean LOADS. Nothing in Lean hashes anything: it is a label: what it is worth is what the hold of that sum in a sandbox is worth. -/
noncomputable def Yba.pinned : Pinned := { name := "ybulkamzw", sum := "35b8864686fb179f65e5a3eecbf7fea1538aa56e9528dcad38f2fe51106a721a", checked := Yba.checked }
namespace Rows
def none {H : Type} : Left H := { results := [], args := [] }

/-- 'records.LawS1933CPrefix': WHATEVER THE INPUT: true; the input reads as it did. -/
def lawS1933CPrefixSpec : ChangeSpec := { name := "lawS1933CPrefix", fn := fun _ => fun
  | [d] => { results := [.lit (.bool true)], args := [d] }
  | _ => none }
def lawS1933CPrefixRow : OpenClaim := { program := "ybulkamzw", sum := "35b8864686fb179f65e5a3eecbf7fea1538aa56e9528dcad38f2fe51106a721a", func := "example.com/sparkwalk/sparkwalk/records.LawS1933CPrefix", spec := "lawS1933CPrefix", apart := false }
def LawS1933CPrefixSaid : Prop := lawS1933CPrefixRow.holds Yba.pinned (OpenSpec.ofChange lawS1933CPrefixSpec)

/-- ITS FALSE NEIGHBOUR: 'it returns false'. Refute it at one input. -/
def lawS1933CPrefixWrong : ChangeSpec := { name := "lawS1933CPrefix", fn := fun _ => fun
  | [d] => { results := [.lit (.bool false)], args := [d] }
  | _ => none }
def LawS1933CPrefixWrongFalsely : Prop := lawS1933CPrefixRow.holds Yba.pinned (OpenSpec.ofChange lawS1933CPrefixWrong)

/-- 'records.LawS1933CRoundTrip': WHATEVER THE INPUT: true; the input reads as it did. -/
def lawS1933CRoundTripSpec : ChangeSpec := { name := "lawS1933CRoundTrip", fn := fun _ => fun
  | [d1, d2, d3] => { results := [.lit (.bool true)], args := [d1, d2, d3] }
  | _ => none }
def lawS1933CRoundTripRow : OpenClaim := { program := "ybulkamzw", sum := "35b8864686fb179f65e5a3eecbf7fea1538aa56e9528dcad38f2fe51106a721a", func := "example.com/sparkwalk/sparkwalk/records.LawS1933CRoundTrip", spec := "lawS1933CRoundTrip", apart := false }
def LawS1933CRoundTripSaid : Prop := lawS1933CRoundTripRow.holds Yba.pinned (OpenSpec.ofChange lawS1933CRoundTripSpec)

/-- ITS FALSE NEIGHBOUR: 'it returns false'. Refute it at one input. -/
def lawS1933CRoundTripWrong : ChangeSpec := { name := "lawS1933CRoundTrip", fn := fun _ => fun
  | [d1, d2, d3] => { results := [.lit (.bool false)], args := [d1, d2, d3] }
  | _ => none }
def LawS1933CRoundTripWrongFalsely : Prop := lawS1933CRoundTripRow.holds Yba.pinned (OpenSpec.ofChange lawS1933CRoundTripWrong)

/-- 'records.LawS1933CLongRun': WHATEVER THE INPUT: true; the input reads as it did. -/
def lawS1933CLongRunSpec : ChangeSpec := { name := "lawS1933CLongRun", fn := fun _ => fun
  | [d1, d2] => { results := [.lit (.bool true)], args := [d1, d2] }
  | _ => none }
def lawS1933CLongRunRow : OpenClaim := { program := "ybulkamzw", sum := "35b8864686fb179f65e5a3eecbf7fea1538aa56e9528dcad38f2fe51106a721a", func := "example.com/sparkwalk/sparkwalk/records.LawS1933CLongRun", spec := "lawS1933CLongRun", apart := false }
def LawS1933CLongRunSaid : Prop := lawS1933CLongRunRow.holds Yba.pinned (OpenSpec.ofChange lawS1933CLongRunSpec)

/-- ITS FALSE NEIGHBOUR: 'it returns false'. Refute it at one input. -/
def lawS1933CLongRunWrong : ChangeSpec := { name := "lawS1933CLongRun", fn := fun _ => fun
  | [d1, d2] => { results := [.lit (.bool false)], args := [d1, d2] }
  | _ => none }
def LawS1933CLongRunWrongFalsely : Prop := lawS1933CLongRunRow.holds Yba.pinned (OpenSpec.ofChange lawS1933CLongRunWrong)

end Rows
end Go.Proofs.Ybulkamzw
