/-
  No cell of these rows narrows 'for every input' (looked for: loops, veiled, ifaces, maps, wideKeys, modest, calm, conditions, laid).
  DERIVED. THE GIVEN ROWS OF THIS SEAT. 2 by the template 'for every input the law returns true; each argument reads behind the call as it read before'; 0 by the template 'total and deterministic' (their statements: YbulkacvmTotals.lean).
  GIVEN WITH THE SEED: the statements are not yours to turn. If you find one false, say at which input.
  Laid BY PROGRAM, IN A SANDBOX (cutbox-rows.mjs): the forced cells as the released guide's own fill.sh prints them over the translation da0b7b69247dacde… (all of the seat's roots in one cut). By AI agents, Wed Nov 11 2026. No macro, syntax, notation, axiom, sorry.
-/
import Derived.Test.YbulkacvmChecked
import GoSem.Claim
import GoSem.ClaimJoined
import GoSem.ClaimMapViews
import Derived.JoinedTies
import Derived.KernelRfl
namespace Go.Proofs.Ybulkacvm
/- THE CELL 'sum', in the pinned program and in every row, IS THE sha256 OF THE DUMP (.gsa) THAT YbulkacvmProg.lean LOADS. Nothing in Lean hashes anything: it is a label: what it is worth is what the hold of that sum in a sandbox is worth. -/
noncomputable def Yba.pinned : Pinned := { name := "ybulkacvm", sum := "da0b7b69247dacde66e262958e1ca329623048e56415f47c611874cc01beba99", checked := Yba.checked }
namespace Rows
def none {H : Type} : Left H := { results := [], args := [] }

/-- 'verify.LawS1442CBytes': WHATEVER THE INPUT: true; the input reads as it did. -/
def lawS1442CBytesSpec : ChangeSpec := { name := "lawS1442CBytes", fn := fun _ => fun
  | [d] => { results := [.lit (.bool true)], args := [d] }
  | _ => none }
def lawS1442CBytesRow : OpenClaim := { program := "ybulkacvm", sum := "da0b7b69247dacde66e262958e1ca329623048e56415f47c611874cc01beba99", func := "example.com/trust-report-check/trust-report-check/pkg/verify.LawS1442CBytes", spec := "lawS1442CBytes", apart := false }
def LawS1442CBytesSaid : Prop := lawS1442CBytesRow.holds Yba.pinned (OpenSpec.ofChange lawS1442CBytesSpec)

/-- ITS FALSE NEIGHBOUR: 'it returns false'. Refute it at one input. -/
def lawS1442CBytesWrong : ChangeSpec := { name := "lawS1442CBytes", fn := fun _ => fun
  | [d] => { results := [.lit (.bool false)], args := [d] }
  | _ => none }
def LawS1442CBytesWrongFalsely : Prop := lawS1442CBytesRow.holds Yba.pinned (OpenSpec.ofChange lawS1442CBytesWrong)

/-- 'verify.LawS1442CUint64': WHATEVER THE INPUT: true; the input reads as it did. -/
def lawS1442CUint64Spec : ChangeSpec := { name := "lawS1442CUint64", fn := fun _ => fun
  | [d] => { results := [.lit (.bool true)], args := [d] }
  | _ => none }
def lawS1442CUint64Row : OpenClaim := { program := "ybulkacvm", sum := "da0b7b69247dacde66e262958e1ca329623048e56415f47c611874cc01beba99", func := "example.com/trust-report-check/trust-report-check/pkg/verify.LawS1442CUint64", spec := "lawS1442CUint64", apart := false }
def LawS1442CUint64Said : Prop := lawS1442CUint64Row.holds Yba.pinned (OpenSpec.ofChange lawS1442CUint64Spec)

/-- ITS FALSE NEIGHBOUR: 'it returns false'. Refute it at one input. -/
def lawS1442CUint64Wrong : ChangeSpec := { name := "lawS1442CUint64", fn := fun _ => fun
  | [d] => { results := [.lit (.bool false)], args := [d] }
  | _ => none }
def LawS1442CUint64WrongFalsely : Prop := lawS1442CUint64Row.holds Yba.pinned (OpenSpec.ofChange lawS1442CUint64Wrong)

end Rows
end Go.Proofs.Ybulkacvm
