/-
  No cell of these rows narrows 'for every input' (looked for: loops, veiled, ifaces, maps, wideKeys, modest, calm, conditions, laid).
  DERIVED. THE GIVEN ROWS OF THIS SEAT. 4 by the template 'for every input the law returns true; each argument reads behind the call as it read before'; 0 by the template 'total and deterministic' (their statements: YbulkamxsTotals.lean).
  GIVEN WITH THE SEED: the statements are not yours to turn. If you find one false, say at which input.
  Laid BY PROGRAM, IN A SANDBOX (cutbox-rows.mjs): the forced cells as the released guide's own fill.sh prints them over the translation 90265c96d6cba083… (all of the seat's roots in one cut). By AI agents, Wed Nov 11 2026. No macro, syntax, notation, axiom, sorry.
-/
import Derived.Test.YbulkamxsChecked
import GoSem.Claim
import GoSem.ClaimJoined
import GoSem.ClaimMapViews
import Derived.JoinedTies
import Derived.KernelRfl
namespace Go.Proofs.Ybulkamxs
/- THE CELL 'sum', in the pinned program and in every row, IS THE sha256 OF THE DUMP (.gsa) THAT YbulkamxsProg.lean LOADS. Nothing in Lean hashes anything: it is a label: what it is worth is what the hold of that sum in a sandbox is worth. -/
noncomputable def Yba.pinned : Pinned := { name := "ybulkamxs", sum := "90265c96d6cba0832e8e8f382cda12dd92281b9869229bbee4ab0a71292405fc", checked := Yba.checked }
namespace Rows
def none {H : Type} : Left H := { results := [], args := [] }

/-- 'dict.LawS1929AModelRaw': WHATEVER THE INPUT: true; the input reads as it did. -/
def lawS1929AModelRawSpec : ChangeSpec := { name := "lawS1929AModelRaw", fn := fun _ => fun
  | [d] => { results := [.lit (.bool true)], args := [d] }
  | _ => none }
def lawS1929AModelRawRow : OpenClaim := { program := "ybulkamxs", sum := "90265c96d6cba0832e8e8f382cda12dd92281b9869229bbee4ab0a71292405fc", func := "example.com/chordwise/chordwise/dict.LawS1929AModelRaw", spec := "lawS1929AModelRaw", inPlace := ["internal/bytealg.IndexByteString", "internal/bytealg.IndexString"], named := ["internal/bytealg.MaxLen"], apart := false }
def LawS1929AModelRawSaid : Prop := lawS1929AModelRawRow.holds Yba.pinned (OpenSpec.ofChange lawS1929AModelRawSpec)

/-- ITS FALSE NEIGHBOUR: 'it returns false'. Refute it at one input. -/
def lawS1929AModelRawWrong : ChangeSpec := { name := "lawS1929AModelRaw", fn := fun _ => fun
  | [d] => { results := [.lit (.bool false)], args := [d] }
  | _ => none }
def LawS1929AModelRawWrongFalsely : Prop := lawS1929AModelRawRow.holds Yba.pinned (OpenSpec.ofChange lawS1929AModelRawWrong)

/-- 'dict.LawS1929AModelBuilt': WHATEVER THE INPUT: true; the input reads as it did. -/
def lawS1929AModelBuiltSpec : ChangeSpec := { name := "lawS1929AModelBuilt", fn := fun _ => fun
  | [d] => { results := [.lit (.bool true)], args := [d] }
  | _ => none }
def lawS1929AModelBuiltRow : OpenClaim := { program := "ybulkamxs", sum := "90265c96d6cba0832e8e8f382cda12dd92281b9869229bbee4ab0a71292405fc", func := "example.com/chordwise/chordwise/dict.LawS1929AModelBuilt", spec := "lawS1929AModelBuilt", inPlace := ["internal/bytealg.IndexByteString", "internal/bytealg.IndexString"], named := ["internal/bytealg.MaxLen"], apart := false }
def LawS1929AModelBuiltSaid : Prop := lawS1929AModelBuiltRow.holds Yba.pinned (OpenSpec.ofChange lawS1929AModelBuiltSpec)

/-- ITS FALSE NEIGHBOUR: 'it returns false'. Refute it at one input. -/
def lawS1929AModelBuiltWrong : ChangeSpec := { name := "lawS1929AModelBuilt", fn := fun _ => fun
  | [d] => { results := [.lit (.bool false)], args := [d] }
  | _ => none }
def LawS1929AModelBuiltWrongFalsely : Prop := lawS1929AModelBuiltRow.holds Yba.pinned (OpenSpec.ofChange lawS1929AModelBuiltWrong)

/-- 'diameter.LawS1929CFirstMatch': WHATEVER THE INPUT: true; the input reads as it did. -/
def lawS1929CFirstMatchSpec : ChangeSpec := { name := "lawS1929CFirstMatch", fn := fun _ => fun
  | [d1, d2, d3] => { results := [.lit (.bool true)], args := [d1, d2, d3] }
  | _ => none }
def lawS1929CFirstMatchRow : OpenClaim := { program := "ybulkamxs", sum := "90265c96d6cba0832e8e8f382cda12dd92281b9869229bbee4ab0a71292405fc", func := "example.com/chordwise/chordwise/diameter.LawS1929CFirstMatch", spec := "lawS1929CFirstMatch", apart := false }
def LawS1929CFirstMatchSaid : Prop := lawS1929CFirstMatchRow.holds Yba.pinned (OpenSpec.ofChange lawS1929CFirstMatchSpec)

/-- ITS FALSE NEIGHBOUR: 'it returns false'. Refute it at one input. -/
def lawS1929CFirstMatchWrong : ChangeSpec := { name := "lawS1929CFirstMatch", fn := fun _ => fun
  | [d1, d2, d3] => { results := [.lit (.bool false)], args := [d1, d2, d3] }
  | _ => none }
def LawS1929CFirstMatchWrongFalsely : Prop := lawS1929CFirstMatchRow.holds Yba.pinned (OpenSpec.ofChange lawS1929CFirstMatchWrong)

/-- 'diameter.LawS1929CFindsPresent': WHATEVER THE INPUT: true; the input reads as it did. -/
def lawS1929CFindsPresentSpec : ChangeSpec := { name := "lawS1929CFindsPresent", fn := fun _ => fun
  | [d1, d2] => { results := [.lit (.bool true)], args := [d1, d2] }
  | _ => none }
def lawS1929CFindsPresentRow : OpenClaim := { program := "ybulkamxs", sum := "90265c96d6cba0832e8e8f382cda12dd92281b9869229bbee4ab0a71292405fc", func := "example.com/chordwise/chordwise/diameter.LawS1929CFindsPresent", spec := "lawS1929CFindsPresent", apart := false }
def LawS1929CFindsPresentSaid : Prop := lawS1929CFindsPresentRow.holds Yba.pinned (OpenSpec.ofChange lawS1929CFindsPresentSpec)

/-- ITS FALSE NEIGHBOUR: 'it returns false'. Refute it at one input. -/
def lawS1929CFindsPresentWrong : ChangeSpec := { name := "lawS1929CFindsPresent", fn := fun _ => fun
  | [d1, d2] => { results := [.lit (.bool false)], args := [d1, d2] }
  | _ => none }
def LawS1929CFindsPresentWrongFalsely : Prop := lawS1929CFindsPresentRow.holds Yba.pinned (OpenSpec.ofChange lawS1929CFindsPresentWrong)

end Rows
end Go.Proofs.Ybulkamxs
