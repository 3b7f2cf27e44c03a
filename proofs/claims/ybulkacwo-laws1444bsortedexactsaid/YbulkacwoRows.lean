/-
  No cell of these rows narrows 'for every input' (looked for: loops, veiled, ifaces, maps, wideKeys, modest, calm, conditions, laid).
  DERIVED. THE GIVEN ROWS OF THIS SEAT. 5 by the template 'for every input the law returns true; each argument reads behind the call as it read before'; 0 by the template 'total and deterministic' (their statements: YbulkacwoTotals.lean).
  GIVEN WITH THE SEED: the statements are not yours to turn. If you find one false, say at which input.
  Laid BY PROGRAM, IN A SANDBOX (cutbox-rows.mjs): the forced cells as the released guide's own fill.sh prints them over the translation 96af3c9e8633595f… (all of the seat's roots in one cut). By AI agents, Wed Nov 11 2026. No macro, syntax, notation, axiom, sorry.
-/
import Derived.Test.YbulkacwoChecked
import GoSem.Claim
import GoSem.ClaimJoined
import GoSem.ClaimMapViews
import Derived.JoinedTies
import Derived.KernelRfl
namespace Go.Proofs.Ybulkacwo
/- THE CELL 'sum', in the pinned program and in every row, IS THE sha256 OF THE DUMP (.gsa) THAT YbulkacwoProg.lean LOADS. Nothing in Lean hashes anything: it is a label: what it is worth is what the hold of that sum in a sandbox is worth. -/
noncomputable def Yba.pinned : Pinned := { name := "ybulkacwo", sum := "96af3c9e8633595ff4a187a069dd33c840f78ad7f5502f1c4dba315da2bc4f92", checked := Yba.checked }
namespace Rows
def none {H : Type} : Left H := { results := [], args := [] }

/-- 'glass-mutex.LawS1444ADeliver': WHATEVER THE INPUT: true; the input reads as it did. -/
def lawS1444ADeliverSpec : ChangeSpec := { name := "lawS1444ADeliver", fn := fun _ => fun
  | [d1, d2, d3, d4, d5, d6, d7, d8, d9] => { results := [.lit (.bool true)], args := [d1, d2, d3, d4, d5, d6, d7, d8, d9] }
  | _ => none }
def lawS1444ADeliverRow : OpenClaim := { program := "ybulkacwo", sum := "96af3c9e8633595ff4a187a069dd33c840f78ad7f5502f1c4dba315da2bc4f92", func := "example.com/glass-mutex/glass-mutex.LawS1444ADeliver", spec := "lawS1444ADeliver", apart := false }
def LawS1444ADeliverSaid : Prop := lawS1444ADeliverRow.holds Yba.pinned (OpenSpec.ofChange lawS1444ADeliverSpec)

/-- ITS FALSE NEIGHBOUR: 'it returns false'. Refute it at one input. -/
def lawS1444ADeliverWrong : ChangeSpec := { name := "lawS1444ADeliver", fn := fun _ => fun
  | [d1, d2, d3, d4, d5, d6, d7, d8, d9] => { results := [.lit (.bool false)], args := [d1, d2, d3, d4, d5, d6, d7, d8, d9] }
  | _ => none }
def LawS1444ADeliverWrongFalsely : Prop := lawS1444ADeliverRow.holds Yba.pinned (OpenSpec.ofChange lawS1444ADeliverWrong)

/-- 'glass-mutex.LawS1444BSortedExact': WHATEVER THE INPUT: true; the input reads as it did. -/
def lawS1444BSortedExactSpec : ChangeSpec := { name := "lawS1444BSortedExact", fn := fun _ => fun
  | [d1, d2, d3, d4] => { results := [.lit (.bool true)], args := [d1, d2, d3, d4] }
  | _ => none }
def lawS1444BSortedExactRow : OpenClaim := { program := "ybulkacwo", sum := "96af3c9e8633595ff4a187a069dd33c840f78ad7f5502f1c4dba315da2bc4f92", func := "example.com/glass-mutex/glass-mutex.LawS1444BSortedExact", spec := "lawS1444BSortedExact", apart := false }
def LawS1444BSortedExactSaid : Prop := lawS1444BSortedExactRow.holds Yba.pinned (OpenSpec.ofChange lawS1444BSortedExactSpec)

/-- ITS FALSE NEIGHBOUR: 'it returns false'. Refute it at one input. -/
def lawS1444BSortedExactWrong : ChangeSpec := { name := "lawS1444BSortedExact", fn := fun _ => fun
  | [d1, d2, d3, d4] => { results := [.lit (.bool false)], args := [d1, d2, d3, d4] }
  | _ => none }
def LawS1444BSortedExactWrongFalsely : Prop := lawS1444BSortedExactRow.holds Yba.pinned (OpenSpec.ofChange lawS1444BSortedExactWrong)

/-- 'glass-mutex.LawS1444BSymSound': WHATEVER THE INPUT: true; the input reads as it did. -/
def lawS1444BSymSoundSpec : ChangeSpec := { name := "lawS1444BSymSound", fn := fun _ => fun
  | [d1, d2] => { results := [.lit (.bool true)], args := [d1, d2] }
  | _ => none }
def lawS1444BSymSoundRow : OpenClaim := { program := "ybulkacwo", sum := "96af3c9e8633595ff4a187a069dd33c840f78ad7f5502f1c4dba315da2bc4f92", func := "example.com/glass-mutex/glass-mutex.LawS1444BSymSound", spec := "lawS1444BSymSound", apart := false }
def LawS1444BSymSoundSaid : Prop := lawS1444BSymSoundRow.holds Yba.pinned (OpenSpec.ofChange lawS1444BSymSoundSpec)

/-- ITS FALSE NEIGHBOUR: 'it returns false'. Refute it at one input. -/
def lawS1444BSymSoundWrong : ChangeSpec := { name := "lawS1444BSymSound", fn := fun _ => fun
  | [d1, d2] => { results := [.lit (.bool false)], args := [d1, d2] }
  | _ => none }
def LawS1444BSymSoundWrongFalsely : Prop := lawS1444BSymSoundRow.holds Yba.pinned (OpenSpec.ofChange lawS1444BSymSoundWrong)

/-- 'glass-mutex.LawS1444CRequest': WHATEVER THE INPUT: true; the input reads as it did. -/
def lawS1444CRequestSpec : ChangeSpec := { name := "lawS1444CRequest", fn := fun _ => fun
  | [d1, d2, d3, d4, d5, d6, d7, d8, d9, d10] => { results := [.lit (.bool true)], args := [d1, d2, d3, d4, d5, d6, d7, d8, d9, d10] }
  | _ => none }
def lawS1444CRequestRow : OpenClaim := { program := "ybulkacwo", sum := "96af3c9e8633595ff4a187a069dd33c840f78ad7f5502f1c4dba315da2bc4f92", func := "example.com/glass-mutex/glass-mutex.LawS1444CRequest", spec := "lawS1444CRequest", unfollowed := true, recurses := true, apart := false }
def LawS1444CRequestSaid : Prop := lawS1444CRequestRow.holds Yba.pinned (OpenSpec.ofChange lawS1444CRequestSpec)

/-- ITS FALSE NEIGHBOUR: 'it returns false'. Refute it at one input. -/
def lawS1444CRequestWrong : ChangeSpec := { name := "lawS1444CRequest", fn := fun _ => fun
  | [d1, d2, d3, d4, d5, d6, d7, d8, d9, d10] => { results := [.lit (.bool false)], args := [d1, d2, d3, d4, d5, d6, d7, d8, d9, d10] }
  | _ => none }
def LawS1444CRequestWrongFalsely : Prop := lawS1444CRequestRow.holds Yba.pinned (OpenSpec.ofChange lawS1444CRequestWrong)

/-- 'glass-mutex.LawS1444CToken': WHATEVER THE INPUT: true; the input reads as it did. -/
def lawS1444CTokenSpec : ChangeSpec := { name := "lawS1444CToken", fn := fun _ => fun
  | [d1, d2, d3, d4, d5, d6, d7, d8] => { results := [.lit (.bool true)], args := [d1, d2, d3, d4, d5, d6, d7, d8] }
  | _ => none }
def lawS1444CTokenRow : OpenClaim := { program := "ybulkacwo", sum := "96af3c9e8633595ff4a187a069dd33c840f78ad7f5502f1c4dba315da2bc4f92", func := "example.com/glass-mutex/glass-mutex.LawS1444CToken", spec := "lawS1444CToken", unfollowed := true, recurses := true, apart := false }
def LawS1444CTokenSaid : Prop := lawS1444CTokenRow.holds Yba.pinned (OpenSpec.ofChange lawS1444CTokenSpec)

/-- ITS FALSE NEIGHBOUR: 'it returns false'. Refute it at one input. -/
def lawS1444CTokenWrong : ChangeSpec := { name := "lawS1444CToken", fn := fun _ => fun
  | [d1, d2, d3, d4, d5, d6, d7, d8] => { results := [.lit (.bool false)], args := [d1, d2, d3, d4, d5, d6, d7, d8] }
  | _ => none }
def LawS1444CTokenWrongFalsely : Prop := lawS1444CTokenRow.holds Yba.pinned (OpenSpec.ofChange lawS1444CTokenWrong)

end Rows
end Go.Proofs.Ybulkacwo
