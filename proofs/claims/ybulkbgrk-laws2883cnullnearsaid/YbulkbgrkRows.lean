/-
  No cell of these rows narrows 'for every input' (looked for: loops, veiled, ifaces, maps, wideKeys, modest, calm, conditions, laid).
  DERIVED. THE GIVEN ROWS OF THIS SEAT. 4 by the template 'for every input the law returns true; each argument reads behind the call as it read before'; 0 by the template 'total and deterministic' (their statements: YbulkbgrkTotals.lean).
  GIVEN WITH THE SEED: the statements are not yours to turn. If you find one false, say at which input.
  Laid BY PROGRAM, IN A SANDBOX (cutbox-rows.mjs): the forced cells as the released guide's own fill.sh prints them over the translation 4fb5ce5098e7c5ae… (all of the seat's roots in one cut). By AI agents, Wed Nov 11 2026. No macro, syntax, notation, axiom, sorry.
-/
import Derived.Test.YbulkbgrkChecked
import GoSem.Claim
import GoSem.ClaimJoined
import GoSem.ClaimMapViews
import Derived.JoinedTies
import Derived.KernelRfl
namespace Go.Proofs.Ybulkbgrk
/- THE CELL 'sum', in the pinned program and in every row, IS THE sha256 OF THE DUMP (.gsa) THAT YbulkbgrkProg.lean LOADS. Nothing in Lean hashes anything: it is a label: what it is worth is what the hold of that sum in a sandbox is worth. -/
noncomputable def Yba.pinned : Pinned := { name := "ybulkbgrk", sum := "4fb5ce5098e7c5ae5e59f67a5f8e3085407d920a381e7275f3b652ac720b1ee9", checked := Yba.checked }
namespace Rows
def none {H : Type} : Left H := { results := [], args := [] }

/-- 'tabwright.LawS2883BModel': WHATEVER THE INPUT: true; the input reads as it did. -/
def lawS2883BModelSpec : ChangeSpec := { name := "lawS2883BModel", fn := fun _ => fun
  | [d1, d2] => { results := [.lit (.bool true)], args := [d1, d2] }
  | _ => none }
def lawS2883BModelRow : OpenClaim := { program := "ybulkbgrk", sum := "4fb5ce5098e7c5ae5e59f67a5f8e3085407d920a381e7275f3b652ac720b1ee9", func := "example.com/tabwright/tabwright.LawS2883BModel", spec := "lawS2883BModel", apart := false }
def LawS2883BModelSaid : Prop := lawS2883BModelRow.holds Yba.pinned (OpenSpec.ofChange lawS2883BModelSpec)

/-- ITS FALSE NEIGHBOUR: 'it returns false'. Refute it at one input. -/
def lawS2883BModelWrong : ChangeSpec := { name := "lawS2883BModel", fn := fun _ => fun
  | [d1, d2] => { results := [.lit (.bool false)], args := [d1, d2] }
  | _ => none }
def LawS2883BModelWrongFalsely : Prop := lawS2883BModelRow.holds Yba.pinned (OpenSpec.ofChange lawS2883BModelWrong)

/-- 'tabwright.LawS2883BChain': WHATEVER THE INPUT: true; the input reads as it did. -/
def lawS2883BChainSpec : ChangeSpec := { name := "lawS2883BChain", fn := fun _ => fun
  | [d] => { results := [.lit (.bool true)], args := [d] }
  | _ => none }
def lawS2883BChainRow : OpenClaim := { program := "ybulkbgrk", sum := "4fb5ce5098e7c5ae5e59f67a5f8e3085407d920a381e7275f3b652ac720b1ee9", func := "example.com/tabwright/tabwright.LawS2883BChain", spec := "lawS2883BChain", apart := false }
def LawS2883BChainSaid : Prop := lawS2883BChainRow.holds Yba.pinned (OpenSpec.ofChange lawS2883BChainSpec)

/-- ITS FALSE NEIGHBOUR: 'it returns false'. Refute it at one input. -/
def lawS2883BChainWrong : ChangeSpec := { name := "lawS2883BChain", fn := fun _ => fun
  | [d] => { results := [.lit (.bool false)], args := [d] }
  | _ => none }
def LawS2883BChainWrongFalsely : Prop := lawS2883BChainRow.holds Yba.pinned (OpenSpec.ofChange lawS2883BChainWrong)

/-- 'tabwright.LawS2883CTable': WHATEVER THE INPUT: true; the input reads as it did. -/
def lawS2883CTableSpec : ChangeSpec := { name := "lawS2883CTable", fn := fun _ => fun
  | [d] => { results := [.lit (.bool true)], args := [d] }
  | _ => none }
def lawS2883CTableRow : OpenClaim := { program := "ybulkbgrk", sum := "4fb5ce5098e7c5ae5e59f67a5f8e3085407d920a381e7275f3b652ac720b1ee9", func := "example.com/tabwright/tabwright.LawS2883CTable", spec := "lawS2883CTable", apart := false }
def LawS2883CTableSaid : Prop := lawS2883CTableRow.holds Yba.pinned (OpenSpec.ofChange lawS2883CTableSpec)

/-- ITS FALSE NEIGHBOUR: 'it returns false'. Refute it at one input. -/
def lawS2883CTableWrong : ChangeSpec := { name := "lawS2883CTable", fn := fun _ => fun
  | [d] => { results := [.lit (.bool false)], args := [d] }
  | _ => none }
def LawS2883CTableWrongFalsely : Prop := lawS2883CTableRow.holds Yba.pinned (OpenSpec.ofChange lawS2883CTableWrong)

/-- 'tabwright.LawS2883CNullNear': WHATEVER THE INPUT: true; the input reads as it did. -/
def lawS2883CNullNearSpec : ChangeSpec := { name := "lawS2883CNullNear", fn := fun _ => fun
  | [d1, d2, d3] => { results := [.lit (.bool true)], args := [d1, d2, d3] }
  | _ => none }
def lawS2883CNullNearRow : OpenClaim := { program := "ybulkbgrk", sum := "4fb5ce5098e7c5ae5e59f67a5f8e3085407d920a381e7275f3b652ac720b1ee9", func := "example.com/tabwright/tabwright.LawS2883CNullNear", spec := "lawS2883CNullNear", apart := false }
def LawS2883CNullNearSaid : Prop := lawS2883CNullNearRow.holds Yba.pinned (OpenSpec.ofChange lawS2883CNullNearSpec)

/-- ITS FALSE NEIGHBOUR: 'it returns false'. Refute it at one input. -/
def lawS2883CNullNearWrong : ChangeSpec := { name := "lawS2883CNullNear", fn := fun _ => fun
  | [d1, d2, d3] => { results := [.lit (.bool false)], args := [d1, d2, d3] }
  | _ => none }
def LawS2883CNullNearWrongFalsely : Prop := lawS2883CNullNearRow.holds Yba.pinned (OpenSpec.ofChange lawS2883CNullNearWrong)

end Rows
end Go.Proofs.Ybulkbgrk
