/-
  No cell of these rows narrows 'for every input' (looked for: loops, veiled, ifaces, maps, wideKeys, modest, calm, conditions, laid).
  DERIVED. THE GIVEN ROWS OF THIS SEAT. 4 by the template 'for every input the law returns true; each argument reads behind the call as it read before'; 0 by the template 'total and deterministic' (their statements: YbulkbrlyTotals.lean).
  GIVEN WITH THE SEED: the statements are not yours to turn. If you find one false, say at which input.
  Laid BY PROGRAM, IN A SANDBOX (cutbox-rows.mjs): the forced cells as the released guide's own fill.sh prints them over the translation 43266cca44dd3422… (all of the seat's roots in one cut). By AI agents, Wed Nov 11 2026. No macro, syntax, notation, axiom, sorry.
-/
import Derived.Test.YbulkbrlyChecked
import GoSem.Claim
import GoSem.ClaimJoined
import GoSem.ClaimMapViews
import Derived.JoinedTies
import Derived.KernelRfl
namespace Go.Proofs.Ybulkbrly
/- THE CELL 'sum', in the pinned program and in every row, IS THE sha256 OF THE DUMP (.gsa) THAT YbulkbrlyProg.lean LOADS. Nothing in Lean hashes anything: it is a label: what it is worth is what the hold of that sum in a sandbox is worth. -/
noncomputable def Yba.pinned : Pinned := { name := "ybulkbrly", sum := "43266cca44dd34224d8a780ee42a00d596e20aa9d19da1dab27c86dc141bc06c", checked := Yba.checked }
namespace Rows
def none {H : Type} : Left H := { results := [], args := [] }

/-- 'allotted-pace.LawS3404AExact': WHATEVER THE INPUT: true; the input reads as it did. -/
def lawS3404AExactSpec : ChangeSpec := { name := "lawS3404AExact", fn := fun _ => fun
  | [d1, d2] => { results := [.lit (.bool true)], args := [d1, d2] }
  | _ => none }
def lawS3404AExactRow : OpenClaim := { program := "ybulkbrly", sum := "43266cca44dd34224d8a780ee42a00d596e20aa9d19da1dab27c86dc141bc06c", func := "example.com/allotted-pace/allotted-pace.LawS3404AExact", spec := "lawS3404AExact", apart := false }
def LawS3404AExactSaid : Prop := lawS3404AExactRow.holds Yba.pinned (OpenSpec.ofChange lawS3404AExactSpec)

/-- ITS FALSE NEIGHBOUR: 'it returns false'. Refute it at one input. -/
def lawS3404AExactWrong : ChangeSpec := { name := "lawS3404AExact", fn := fun _ => fun
  | [d1, d2] => { results := [.lit (.bool false)], args := [d1, d2] }
  | _ => none }
def LawS3404AExactWrongFalsely : Prop := lawS3404AExactRow.holds Yba.pinned (OpenSpec.ofChange lawS3404AExactWrong)

/-- 'allotted-pace.LawS3404ASum': WHATEVER THE INPUT: true; the input reads as it did. -/
def lawS3404ASumSpec : ChangeSpec := { name := "lawS3404ASum", fn := fun _ => fun
  | [d] => { results := [.lit (.bool true)], args := [d] }
  | _ => none }
def lawS3404ASumRow : OpenClaim := { program := "ybulkbrly", sum := "43266cca44dd34224d8a780ee42a00d596e20aa9d19da1dab27c86dc141bc06c", func := "example.com/allotted-pace/allotted-pace.LawS3404ASum", spec := "lawS3404ASum", inPlace := ["math/bits.Add64"], apart := false }
def LawS3404ASumSaid : Prop := lawS3404ASumRow.holds Yba.pinned (OpenSpec.ofChange lawS3404ASumSpec)

/-- ITS FALSE NEIGHBOUR: 'it returns false'. Refute it at one input. -/
def lawS3404ASumWrong : ChangeSpec := { name := "lawS3404ASum", fn := fun _ => fun
  | [d] => { results := [.lit (.bool false)], args := [d] }
  | _ => none }
def LawS3404ASumWrongFalsely : Prop := lawS3404ASumRow.holds Yba.pinned (OpenSpec.ofChange lawS3404ASumWrong)

/-- 'allotted-pace.LawS3404CSets': WHATEVER THE INPUT: true; the input reads as it did. -/
def lawS3404CSetsSpec : ChangeSpec := { name := "lawS3404CSets", fn := fun _ => fun
  | [d1, d2, d3] => { results := [.lit (.bool true)], args := [d1, d2, d3] }
  | _ => none }
def lawS3404CSetsRow : OpenClaim := { program := "ybulkbrly", sum := "43266cca44dd34224d8a780ee42a00d596e20aa9d19da1dab27c86dc141bc06c", func := "example.com/allotted-pace/allotted-pace.LawS3404CSets", spec := "lawS3404CSets", unfollowed := true, recurses := true, apart := false }
def LawS3404CSetsSaid : Prop := lawS3404CSetsRow.holds Yba.pinned (OpenSpec.ofChange lawS3404CSetsSpec)

/-- ITS FALSE NEIGHBOUR: 'it returns false'. Refute it at one input. -/
def lawS3404CSetsWrong : ChangeSpec := { name := "lawS3404CSets", fn := fun _ => fun
  | [d1, d2, d3] => { results := [.lit (.bool false)], args := [d1, d2, d3] }
  | _ => none }
def LawS3404CSetsWrongFalsely : Prop := lawS3404CSetsRow.holds Yba.pinned (OpenSpec.ofChange lawS3404CSetsWrong)

/-- 'allotted-pace.LawS3404CLastWins': WHATEVER THE INPUT: true; the input reads as it did. -/
def lawS3404CLastWinsSpec : ChangeSpec := { name := "lawS3404CLastWins", fn := fun _ => fun
  | [d1, d2, d3, d4] => { results := [.lit (.bool true)], args := [d1, d2, d3, d4] }
  | _ => none }
def lawS3404CLastWinsRow : OpenClaim := { program := "ybulkbrly", sum := "43266cca44dd34224d8a780ee42a00d596e20aa9d19da1dab27c86dc141bc06c", func := "example.com/allotted-pace/allotted-pace.LawS3404CLastWins", spec := "lawS3404CLastWins", unfollowed := true, recurses := true, apart := false }
def LawS3404CLastWinsSaid : Prop := lawS3404CLastWinsRow.holds Yba.pinned (OpenSpec.ofChange lawS3404CLastWinsSpec)

/-- ITS FALSE NEIGHBOUR: 'it returns false'. Refute it at one input. -/
def lawS3404CLastWinsWrong : ChangeSpec := { name := "lawS3404CLastWins", fn := fun _ => fun
  | [d1, d2, d3, d4] => { results := [.lit (.bool false)], args := [d1, d2, d3, d4] }
  | _ => none }
def LawS3404CLastWinsWrongFalsely : Prop := lawS3404CLastWinsRow.holds Yba.pinned (OpenSpec.ofChange lawS3404CLastWinsWrong)

end Rows
end Go.Proofs.Ybulkbrly
