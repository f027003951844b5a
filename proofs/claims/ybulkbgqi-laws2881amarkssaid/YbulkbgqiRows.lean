/-
  No cell of these rows narrows 'for every input' (looked for: loops, veiled, ifaces, maps, wideKeys, modest, calm, conditions, laid).
  DERIVED. THE GIVEN ROWS OF THIS SEAT. 2 by the template 'for every input the law returns true; each argument reads behind the call as it read before'; 0 by the template 'total and deterministic' (their statements: YbulkbgqiTotals.lean).
  GIVEN WITH THE SEED: the statements are not yours to turn. If you find one false, say at which input.
  Laid BY PROGRAM, IN A SANDBOX (cutbox-rows.mjs): the forced cells as the released guide's own fill.sh prints them over the translation 1c7db2c45e44f9bb… (all of the seat's roots in one cut). By AI agents, Wed Nov 11 2026. No macro, syntax, notation, axiom, sorry.
-/
import Derived.Test.YbulkbgqiChecked
import GoSem.Claim
import GoSem.ClaimJoined
import GoSem.ClaimMapViews
import Derived.JoinedTies
import Derived.KernelRfl
namespace Go.Proofs.Ybulkbgqi
/- THE CELL 'sum', in the pinned program and in every row, IS THE sha256 OF THE DUMP (.gsa) THAT YbulkbgqiProg.lean LOADS. Nothing in Lean hashes anything: it is a label: what it is worth is what the hold of that sum in a sandbox is worth. -/
noncomputable def Yba.pinned : Pinned := { name := "ybulkbgqi", sum := "1c7db2c45e44f9bb5f7e725c6ec6729e680a4643163de86f1dad52f109df8248", checked := Yba.checked }
namespace Rows
def none {H : Type} : Left H := { results := [], args := [] }

/-- 'latchwork.LawS2881AMarks': WHATEVER THE INPUT: true; the input reads as it did. -/
def lawS2881AMarksSpec : ChangeSpec := { name := "lawS2881AMarks", fn := fun _ => fun
  | [d1, d2] => { results := [.lit (.bool true)], args := [d1, d2] }
  | _ => none }
def lawS2881AMarksRow : OpenClaim := { program := "ybulkbgqi", sum := "1c7db2c45e44f9bb5f7e725c6ec6729e680a4643163de86f1dad52f109df8248", func := "example.com/latchwork/latchwork.LawS2881AMarks", spec := "lawS2881AMarks", apart := false }
def LawS2881AMarksSaid : Prop := lawS2881AMarksRow.holds Yba.pinned (OpenSpec.ofChange lawS2881AMarksSpec)

/-- ITS FALSE NEIGHBOUR: 'it returns false'. Refute it at one input. -/
def lawS2881AMarksWrong : ChangeSpec := { name := "lawS2881AMarks", fn := fun _ => fun
  | [d1, d2] => { results := [.lit (.bool false)], args := [d1, d2] }
  | _ => none }
def LawS2881AMarksWrongFalsely : Prop := lawS2881AMarksRow.holds Yba.pinned (OpenSpec.ofChange lawS2881AMarksWrong)

/-- 'latchwork.LawS2881CNearest': WHATEVER THE INPUT: true; the input reads as it did. -/
def lawS2881CNearestSpec : ChangeSpec := { name := "lawS2881CNearest", fn := fun _ => fun
  | [d1, d2, d3, d4, d5] => { results := [.lit (.bool true)], args := [d1, d2, d3, d4, d5] }
  | _ => none }
def lawS2881CNearestRow : OpenClaim := { program := "ybulkbgqi", sum := "1c7db2c45e44f9bb5f7e725c6ec6729e680a4643163de86f1dad52f109df8248", func := "example.com/latchwork/latchwork.LawS2881CNearest", spec := "lawS2881CNearest", apart := false }
def LawS2881CNearestSaid : Prop := lawS2881CNearestRow.holds Yba.pinned (OpenSpec.ofChange lawS2881CNearestSpec)

/-- ITS FALSE NEIGHBOUR: 'it returns false'. Refute it at one input. -/
def lawS2881CNearestWrong : ChangeSpec := { name := "lawS2881CNearest", fn := fun _ => fun
  | [d1, d2, d3, d4, d5] => { results := [.lit (.bool false)], args := [d1, d2, d3, d4, d5] }
  | _ => none }
def LawS2881CNearestWrongFalsely : Prop := lawS2881CNearestRow.holds Yba.pinned (OpenSpec.ofChange lawS2881CNearestWrong)

end Rows
end Go.Proofs.Ybulkbgqi
