/-
  No cell of these rows narrows 'for every input' (looked for: loops, veiled, ifaces, maps, wideKeys, modest, calm, conditions, laid).
  DERIVED. THE GIVEN ROWS OF THIS SEAT. 2 by the template 'for every input the law returns true; each argument reads behind the call as it read before'; 0 by the template 'total and deterministic' (their statements: YbulkanakTotals.lean).
  GIVEN WITH THE SEED: the statements are not yours to turn. If you find one false, say at which input.
  Laid BY PROGRAM, IN A SANDBOX (cutbox-rows.mjs): the forced cells as the released guide's own fill.sh prints them over the translation 0733bc61d70d3820… (all of the seat's roots in one cut). By AI agents, Wed Nov 11 2026. No macro, syntax, notation, axiom, sorry.
-/
import Derived.Test.YbulkanakChecked
import GoSem.Claim
import GoSem.ClaimJoined
import GoSem.ClaimMapViews
import Derived.JoinedTies
import Derived.KernelRfl
namespace Go.Proofs.Ybulkanak
/- THE CELL 'sum', in the pinned program and in every row, IS THE sha256 OF THE DUMP (.gsa) THAT YbulkanakProg.lean LOADS. Nothing in Lean hashes anything: it is a label: what it is worth is what the hold of that sum in a sandbox is worth. -/
noncomputable def Yba.pinned : Pinned := { name := "ybulkanak", sum := "0733bc61d70d3820a5e50a9baaf295803a4afc15b441dee883b2b2562fde7e48", checked := Yba.checked }
namespace Rows
def none {H : Type} : Left H := { results := [], args := [] }

/-- 'extensions.LawS1934BPicksLatestStart': WHATEVER THE INPUT: true; the input reads as it did. -/
def lawS1934BPicksLatestStartSpec : ChangeSpec := { name := "lawS1934BPicksLatestStart", fn := fun _ => fun
  | [d1, d2] => { results := [.lit (.bool true)], args := [d1, d2] }
  | _ => none }
def lawS1934BPicksLatestStartRow : OpenClaim := { program := "ybulkanak", sum := "0733bc61d70d3820a5e50a9baaf295803a4afc15b441dee883b2b2562fde7e48", func := "example.com/outrigger/outrigger/extensions.LawS1934BPicksLatestStart", spec := "lawS1934BPicksLatestStart", unfollowed := true, recurses := true, apart := false }
def LawS1934BPicksLatestStartSaid : Prop := lawS1934BPicksLatestStartRow.holds Yba.pinned (OpenSpec.ofChange lawS1934BPicksLatestStartSpec)

/-- ITS FALSE NEIGHBOUR: 'it returns false'. Refute it at one input. -/
def lawS1934BPicksLatestStartWrong : ChangeSpec := { name := "lawS1934BPicksLatestStart", fn := fun _ => fun
  | [d1, d2] => { results := [.lit (.bool false)], args := [d1, d2] }
  | _ => none }
def LawS1934BPicksLatestStartWrongFalsely : Prop := lawS1934BPicksLatestStartRow.holds Yba.pinned (OpenSpec.ofChange lawS1934BPicksLatestStartWrong)

/-- 'extensions.LawS1934BStartsAndEnds': WHATEVER THE INPUT: true; the input reads as it did. -/
def lawS1934BStartsAndEndsSpec : ChangeSpec := { name := "lawS1934BStartsAndEnds", fn := fun _ => fun
  | [d] => { results := [.lit (.bool true)], args := [d] }
  | _ => none }
def lawS1934BStartsAndEndsRow : OpenClaim := { program := "ybulkanak", sum := "0733bc61d70d3820a5e50a9baaf295803a4afc15b441dee883b2b2562fde7e48", func := "example.com/outrigger/outrigger/extensions.LawS1934BStartsAndEnds", spec := "lawS1934BStartsAndEnds", unfollowed := true, recurses := true, apart := false }
def LawS1934BStartsAndEndsSaid : Prop := lawS1934BStartsAndEndsRow.holds Yba.pinned (OpenSpec.ofChange lawS1934BStartsAndEndsSpec)

/-- ITS FALSE NEIGHBOUR: 'it returns false'. Refute it at one input. -/
def lawS1934BStartsAndEndsWrong : ChangeSpec := { name := "lawS1934BStartsAndEnds", fn := fun _ => fun
  | [d] => { results := [.lit (.bool false)], args := [d] }
  | _ => none }
def LawS1934BStartsAndEndsWrongFalsely : Prop := lawS1934BStartsAndEndsRow.holds Yba.pinned (OpenSpec.ofChange lawS1934BStartsAndEndsWrong)

end Rows
end Go.Proofs.Ybulkanak
