/-
  No cell of these rows narrows 'for every input' (looked for: loops, veiled, ifaces, maps, wideKeys, modest, calm, conditions, laid).
  DERIVED. THE GIVEN ROWS OF THIS SEAT. 4 by the template 'for every input the law returns true; each argument reads behind the call as it read before'; 0 by the template 'total and deterministic' (their statements: YbulkbrnoTotals.lean).
  GIVEN WITH THE SEED: the statements are not yours to turn. If you find one false, say at which input.
  Laid BY PROGRAM, IN A SANDBOX (cutbox-rows.mjs): the forced cells as the released guide's own fill.sh prints them over the translation 0b3a4452c62ff624… (all of the seat's roots in one cut). By AI agents, Wed Nov 11 2026. No macro, syntax, notation, axiom, sorry.
-/
import Derived.Test.YbulkbrnoChecked
import GoSem.Claim
import GoSem.ClaimJoined
import GoSem.ClaimMapViews
import Derived.JoinedTies
import Derived.KernelRfl
namespace Go.Proofs.Ybulkbrno
/- THE CELL 'sum', in the pinned program and in every row, IS THE sha256 OF THE DUMP (.gsa) THAT YbulkbrnoProg.lean LOADS. Nothing in Lean hashes anything: it is a label: what it is worth is what the hold of that sum in a sandbox is worth. -/
noncomputable def Yba.pinned : Pinned := { name := "ybulkbrno", sum := "0b3a4452c62ff62476a47373958a63adab57843d700a5e056e9f44369b9c1ff5", checked := Yba.checked }
namespace Rows
def none {H : Type} : Left H := { results := [], args := [] }

/-- 'holdfast.LawS3407AModel': WHATEVER THE INPUT: true; the input reads as it did. -/
def lawS3407AModelSpec : ChangeSpec := { name := "lawS3407AModel", fn := fun _ => fun
  | [d1, d2, d3, d4] => { results := [.lit (.bool true)], args := [d1, d2, d3, d4] }
  | _ => none }
def lawS3407AModelRow : OpenClaim := { program := "ybulkbrno", sum := "0b3a4452c62ff62476a47373958a63adab57843d700a5e056e9f44369b9c1ff5", func := "example.com/holdfast/holdfast.LawS3407AModel", spec := "lawS3407AModel", apart := false }
def LawS3407AModelSaid : Prop := lawS3407AModelRow.holds Yba.pinned (OpenSpec.ofChange lawS3407AModelSpec)

/-- ITS FALSE NEIGHBOUR: 'it returns false'. Refute it at one input. -/
def lawS3407AModelWrong : ChangeSpec := { name := "lawS3407AModel", fn := fun _ => fun
  | [d1, d2, d3, d4] => { results := [.lit (.bool false)], args := [d1, d2, d3, d4] }
  | _ => none }
def LawS3407AModelWrongFalsely : Prop := lawS3407AModelRow.holds Yba.pinned (OpenSpec.ofChange lawS3407AModelWrong)

/-- 'holdfast.LawS3407BModel': WHATEVER THE INPUT: true; the input reads as it did. -/
def lawS3407BModelSpec : ChangeSpec := { name := "lawS3407BModel", fn := fun _ => fun
  | [d1, d2, d3, d4, d5, d6] => { results := [.lit (.bool true)], args := [d1, d2, d3, d4, d5, d6] }
  | _ => none }
def lawS3407BModelRow : OpenClaim := { program := "ybulkbrno", sum := "0b3a4452c62ff62476a47373958a63adab57843d700a5e056e9f44369b9c1ff5", func := "example.com/holdfast/holdfast.LawS3407BModel", spec := "lawS3407BModel", apart := false }
def LawS3407BModelSaid : Prop := lawS3407BModelRow.holds Yba.pinned (OpenSpec.ofChange lawS3407BModelSpec)

/-- ITS FALSE NEIGHBOUR: 'it returns false'. Refute it at one input. -/
def lawS3407BModelWrong : ChangeSpec := { name := "lawS3407BModel", fn := fun _ => fun
  | [d1, d2, d3, d4, d5, d6] => { results := [.lit (.bool false)], args := [d1, d2, d3, d4, d5, d6] }
  | _ => none }
def LawS3407BModelWrongFalsely : Prop := lawS3407BModelRow.holds Yba.pinned (OpenSpec.ofChange lawS3407BModelWrong)

/-- 'holdfast.LawS3407BStrict': WHATEVER THE INPUT: true; the input reads as it did. -/
def lawS3407BStrictSpec : ChangeSpec := { name := "lawS3407BStrict", fn := fun _ => fun
  | [d1, d2, d3, d4, d5, d6, d7] => { results := [.lit (.bool true)], args := [d1, d2, d3, d4, d5, d6, d7] }
  | _ => none }
def lawS3407BStrictRow : OpenClaim := { program := "ybulkbrno", sum := "0b3a4452c62ff62476a47373958a63adab57843d700a5e056e9f44369b9c1ff5", func := "example.com/holdfast/holdfast.LawS3407BStrict", spec := "lawS3407BStrict", apart := false }
def LawS3407BStrictSaid : Prop := lawS3407BStrictRow.holds Yba.pinned (OpenSpec.ofChange lawS3407BStrictSpec)

/-- ITS FALSE NEIGHBOUR: 'it returns false'. Refute it at one input. -/
def lawS3407BStrictWrong : ChangeSpec := { name := "lawS3407BStrict", fn := fun _ => fun
  | [d1, d2, d3, d4, d5, d6, d7] => { results := [.lit (.bool false)], args := [d1, d2, d3, d4, d5, d6, d7] }
  | _ => none }
def LawS3407BStrictWrongFalsely : Prop := lawS3407BStrictRow.holds Yba.pinned (OpenSpec.ofChange lawS3407BStrictWrong)

/-- 'holdfast.LawS3407BKinds': WHATEVER THE INPUT: true; the input reads as it did. -/
def lawS3407BKindsSpec : ChangeSpec := { name := "lawS3407BKinds", fn := fun _ => fun
  | [d1, d2, d3, d4] => { results := [.lit (.bool true)], args := [d1, d2, d3, d4] }
  | _ => none }
def lawS3407BKindsRow : OpenClaim := { program := "ybulkbrno", sum := "0b3a4452c62ff62476a47373958a63adab57843d700a5e056e9f44369b9c1ff5", func := "example.com/holdfast/holdfast.LawS3407BKinds", spec := "lawS3407BKinds", apart := false }
def LawS3407BKindsSaid : Prop := lawS3407BKindsRow.holds Yba.pinned (OpenSpec.ofChange lawS3407BKindsSpec)

/-- ITS FALSE NEIGHBOUR: 'it returns false'. Refute it at one input. -/
def lawS3407BKindsWrong : ChangeSpec := { name := "lawS3407BKinds", fn := fun _ => fun
  | [d1, d2, d3, d4] => { results := [.lit (.bool false)], args := [d1, d2, d3, d4] }
  | _ => none }
def LawS3407BKindsWrongFalsely : Prop := lawS3407BKindsRow.holds Yba.pinned (OpenSpec.ofChange lawS3407BKindsWrong)

end Rows
end Go.Proofs.Ybulkbrno
