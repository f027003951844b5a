/-
  No cell of these rows narrows 'for every input' (looked for: loops, veiled, ifaces, maps, wideKeys, modest, calm, conditions, laid).
  DERIVED. THE GIVEN ROWS OF THIS SEAT. 2 by the template 'for every input the law returns true; each argument reads behind the call as it read before'; 0 by the template 'total and deterministic' (their statements: YbulkbgpuTotals.lean).
  GIVEN WITH THE SEED: the statements are not yours to turn. If you find one false, say at which input.
  Laid BY PROGRAM, IN A SANDBOX (cutbox-rows.mjs): the forced cells as the released guide's own fill.sh prints them over the translation d28726c3efedec32… (all of the seat's roots in one cut). By AI agents, Wed Nov 11 2026. No macro, syntax, notation, axiom, sorry.
-/
import Derived.Test.YbulkbgpuChecked
import GoSem.Claim
import GoSem.ClaimJoined
import GoSem.ClaimMapViews
import Derived.JoinedTies
import Derived.KernelRfl
namespace Go.Proofs.Ybulkbgpu
/- THE CELL 'sum', in the pinned program and in every row, IS THE sha256 OF THE DUMP (.gsa) THAT YbulkbgpuProg.lean LOADS. Nothing in Lean hashes anything: it is a label: what it is worth is what the hold of that sum in a sandbox is worth. -/
noncomputable def Yba.pinned : Pinned := { name := "ybulkbgpu", sum := "d28726c3efedec32d98399b78e880731d5572d57fb8e9f7bfbebb077c25d699a", checked := Yba.checked }
namespace Rows
def none {H : Type} : Left H := { results := [], args := [] }

/-- 'store.LawS2880AExact': WHATEVER THE INPUT: true; the input reads as it did. -/
def lawS2880AExactSpec : ChangeSpec := { name := "lawS2880AExact", fn := fun _ => fun
  | [d1, d2, d3, d4, d5] => { results := [.lit (.bool true)], args := [d1, d2, d3, d4, d5] }
  | _ => none }
def lawS2880AExactRow : OpenClaim := { program := "ybulkbgpu", sum := "d28726c3efedec32d98399b78e880731d5572d57fb8e9f7bfbebb077c25d699a", func := "example.com/caretpipe/caretpipe/internal/store.LawS2880AExact", spec := "lawS2880AExact", named := ["encoding/binary.LittleEndian"], apart := false }
def LawS2880AExactSaid : Prop := lawS2880AExactRow.holds Yba.pinned (OpenSpec.ofChange lawS2880AExactSpec)

/-- ITS FALSE NEIGHBOUR: 'it returns false'. Refute it at one input. -/
def lawS2880AExactWrong : ChangeSpec := { name := "lawS2880AExact", fn := fun _ => fun
  | [d1, d2, d3, d4, d5] => { results := [.lit (.bool false)], args := [d1, d2, d3, d4, d5] }
  | _ => none }
def LawS2880AExactWrongFalsely : Prop := lawS2880AExactRow.holds Yba.pinned (OpenSpec.ofChange lawS2880AExactWrong)

/-- 'store.LawS2880ARoundTrip': WHATEVER THE INPUT: true; the input reads as it did. -/
def lawS2880ARoundTripSpec : ChangeSpec := { name := "lawS2880ARoundTrip", fn := fun _ => fun
  | [d1, d2, d3, d4, d5] => { results := [.lit (.bool true)], args := [d1, d2, d3, d4, d5] }
  | _ => none }
def lawS2880ARoundTripRow : OpenClaim := { program := "ybulkbgpu", sum := "d28726c3efedec32d98399b78e880731d5572d57fb8e9f7bfbebb077c25d699a", func := "example.com/caretpipe/caretpipe/internal/store.LawS2880ARoundTrip", spec := "lawS2880ARoundTrip", named := ["encoding/binary.LittleEndian"], apart := false }
def LawS2880ARoundTripSaid : Prop := lawS2880ARoundTripRow.holds Yba.pinned (OpenSpec.ofChange lawS2880ARoundTripSpec)

/-- ITS FALSE NEIGHBOUR: 'it returns false'. Refute it at one input. -/
def lawS2880ARoundTripWrong : ChangeSpec := { name := "lawS2880ARoundTrip", fn := fun _ => fun
  | [d1, d2, d3, d4, d5] => { results := [.lit (.bool false)], args := [d1, d2, d3, d4, d5] }
  | _ => none }
def LawS2880ARoundTripWrongFalsely : Prop := lawS2880ARoundTripRow.holds Yba.pinned (OpenSpec.ofChange lawS2880ARoundTripWrong)

end Rows
end Go.Proofs.Ybulkbgpu
