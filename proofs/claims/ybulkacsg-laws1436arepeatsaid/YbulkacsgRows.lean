/-
  No cell of these rows narrows 'for every input' (looked for: loops, veiled, ifaces, maps, wideKeys, modest, calm, conditions, laid).
  DERIVED. THE GIVEN ROWS OF THIS SEAT. 6 by the template 'for every input the law returns true; each argument reads behind the call as it read before'; 0 by the template 'total and deterministic' (their statements: YbulkacsgTotals.lean).
  GIVEN WITH THE SEED: the statements are not yours to turn. If you find one false, say at which input.
  Laid BY PROGRAM, IN A SANDBOX (cutbox-rows.mjs): the forced cells as the released guide's own fill.sh prints them over the translation 819ddb788aa79074… (all of the seat's roots in one cut). By AI agents, Wed Nov 11 2026. No macro, syntax, notation, axiom, sorry.
-/
import Derived.Test.YbulkacsgChecked
import GoSem.Claim
import GoSem.ClaimJoined
import GoSem.ClaimMapViews
import Derived.JoinedTies
import Derived.KernelRfl
namespace Go.Proofs.Ybulkacsg
/- THE CELL 'sum', in the pinned program and in every row, IS THE sha256 OF THE DUMP (.gsa) THAT YbulkacsgProg.lean LOADS. Nothing in Lean hashes anything: it is a label: what it is worth is what the hold of that sum in a sandbox is worth. -/
noncomputable def Yba.pinned : Pinned := { name := "ybulkacsg", sum := "819ddb788aa7907497d240cba3c3f78e72a9e3a632669260d8d325c135c9ff12", checked := Yba.checked }
namespace Rows
def none {H : Type} : Left H := { results := [], args := [] }

/-- 'lend-hands.LawS1436AOnce': WHATEVER THE INPUT: true; the input reads as it did. -/
def lawS1436AOnceSpec : ChangeSpec := { name := "lawS1436AOnce", fn := fun _ => fun
  | [d1, d2, d3, d4] => { results := [.lit (.bool true)], args := [d1, d2, d3, d4] }
  | _ => none }
def lawS1436AOnceRow : OpenClaim := { program := "ybulkacsg", sum := "819ddb788aa7907497d240cba3c3f78e72a9e3a632669260d8d325c135c9ff12", func := "example.com/lend-hands/lend-hands.LawS1436AOnce", spec := "lawS1436AOnce", inPlace := ["sync/atomic.StoreUint32", "sync/atomic.StoreInt64", "sync/atomic.LoadUint32", "sync/atomic.LoadInt64", "sync/atomic.CompareAndSwapInt64", "(*internal/sync.Mutex).Lock", "internal/race.Disable", "sync/atomic.CompareAndSwapInt32", "internal/race.Enable", "internal/race.Acquire", "(*internal/sync.Mutex).lockSlow", "internal/sync.runtime_canSpin", "internal/sync.runtime_doSpin", "internal/sync.throw", "internal/sync.runtime_nanotime", "internal/sync.runtime_SemacquireMutex", "sync/atomic.AddInt32", "sync/atomic.AddInt64", "(*internal/sync.Mutex).Unlock", "internal/race.ReleaseMerge", "(*internal/sync.Mutex).unlockSlow", "internal/sync.fatal", "internal/sync.runtime_Semrelease"], apart := false }
def LawS1436AOnceSaid : Prop := lawS1436AOnceRow.holds Yba.pinned (OpenSpec.ofChange lawS1436AOnceSpec)

/-- ITS FALSE NEIGHBOUR: 'it returns false'. Refute it at one input. -/
def lawS1436AOnceWrong : ChangeSpec := { name := "lawS1436AOnce", fn := fun _ => fun
  | [d1, d2, d3, d4] => { results := [.lit (.bool false)], args := [d1, d2, d3, d4] }
  | _ => none }
def LawS1436AOnceWrongFalsely : Prop := lawS1436AOnceRow.holds Yba.pinned (OpenSpec.ofChange lawS1436AOnceWrong)

/-- 'lend-hands.LawS1436ARepeat': WHATEVER THE INPUT: true; the input reads as it did. -/
def lawS1436ARepeatSpec : ChangeSpec := { name := "lawS1436ARepeat", fn := fun _ => fun
  | [d1, d2] => { results := [.lit (.bool true)], args := [d1, d2] }
  | _ => none }
def lawS1436ARepeatRow : OpenClaim := { program := "ybulkacsg", sum := "819ddb788aa7907497d240cba3c3f78e72a9e3a632669260d8d325c135c9ff12", func := "example.com/lend-hands/lend-hands.LawS1436ARepeat", spec := "lawS1436ARepeat", inPlace := ["sync/atomic.StoreInt64", "sync/atomic.LoadUint32", "sync/atomic.LoadInt64", "sync/atomic.CompareAndSwapInt64", "(*internal/sync.Mutex).Lock", "internal/race.Disable", "sync/atomic.CompareAndSwapInt32", "internal/race.Enable", "internal/race.Acquire", "(*internal/sync.Mutex).lockSlow", "internal/sync.runtime_canSpin", "internal/sync.runtime_doSpin", "internal/sync.throw", "internal/sync.runtime_nanotime", "internal/sync.runtime_SemacquireMutex", "sync/atomic.AddInt32", "sync/atomic.AddInt64", "(*internal/sync.Mutex).Unlock", "internal/race.ReleaseMerge", "(*internal/sync.Mutex).unlockSlow", "internal/sync.fatal", "internal/sync.runtime_Semrelease"], apart := false }
def LawS1436ARepeatSaid : Prop := lawS1436ARepeatRow.holds Yba.pinned (OpenSpec.ofChange lawS1436ARepeatSpec)

/-- ITS FALSE NEIGHBOUR: 'it returns false'. Refute it at one input. -/
def lawS1436ARepeatWrong : ChangeSpec := { name := "lawS1436ARepeat", fn := fun _ => fun
  | [d1, d2] => { results := [.lit (.bool false)], args := [d1, d2] }
  | _ => none }
def LawS1436ARepeatWrongFalsely : Prop := lawS1436ARepeatRow.holds Yba.pinned (OpenSpec.ofChange lawS1436ARepeatWrong)

/-- 'lend-hands.LawS1436BFifo': WHATEVER THE INPUT: true; the input reads as it did. -/
def lawS1436BFifoSpec : ChangeSpec := { name := "lawS1436BFifo", fn := fun _ => fun
  | [d1, d2] => { results := [.lit (.bool true)], args := [d1, d2] }
  | _ => none }
def lawS1436BFifoRow : OpenClaim := { program := "ybulkacsg", sum := "819ddb788aa7907497d240cba3c3f78e72a9e3a632669260d8d325c135c9ff12", func := "example.com/lend-hands/lend-hands.LawS1436BFifo", spec := "lawS1436BFifo", apart := false }
def LawS1436BFifoSaid : Prop := lawS1436BFifoRow.holds Yba.pinned (OpenSpec.ofChange lawS1436BFifoSpec)

/-- ITS FALSE NEIGHBOUR: 'it returns false'. Refute it at one input. -/
def lawS1436BFifoWrong : ChangeSpec := { name := "lawS1436BFifo", fn := fun _ => fun
  | [d1, d2] => { results := [.lit (.bool false)], args := [d1, d2] }
  | _ => none }
def LawS1436BFifoWrongFalsely : Prop := lawS1436BFifoRow.holds Yba.pinned (OpenSpec.ofChange lawS1436BFifoWrong)

/-- 'lend-hands.LawS1436BGrow': WHATEVER THE INPUT: true; the input reads as it did. -/
def lawS1436BGrowSpec : ChangeSpec := { name := "lawS1436BGrow", fn := fun _ => fun
  | [d1, d2] => { results := [.lit (.bool true)], args := [d1, d2] }
  | _ => none }
def lawS1436BGrowRow : OpenClaim := { program := "ybulkacsg", sum := "819ddb788aa7907497d240cba3c3f78e72a9e3a632669260d8d325c135c9ff12", func := "example.com/lend-hands/lend-hands.LawS1436BGrow", spec := "lawS1436BGrow", apart := false }
def LawS1436BGrowSaid : Prop := lawS1436BGrowRow.holds Yba.pinned (OpenSpec.ofChange lawS1436BGrowSpec)

/-- ITS FALSE NEIGHBOUR: 'it returns false'. Refute it at one input. -/
def lawS1436BGrowWrong : ChangeSpec := { name := "lawS1436BGrow", fn := fun _ => fun
  | [d1, d2] => { results := [.lit (.bool false)], args := [d1, d2] }
  | _ => none }
def LawS1436BGrowWrongFalsely : Prop := lawS1436BGrowRow.holds Yba.pinned (OpenSpec.ofChange lawS1436BGrowWrong)

/-- 'lend-hands.LawS1436CSets': WHATEVER THE INPUT: true; the input reads as it did. -/
def lawS1436CSetsSpec : ChangeSpec := { name := "lawS1436CSets", fn := fun _ => fun
  | [d1, d2] => { results := [.lit (.bool true)], args := [d1, d2] }
  | _ => none }
def lawS1436CSetsRow : OpenClaim := { program := "ybulkacsg", sum := "819ddb788aa7907497d240cba3c3f78e72a9e3a632669260d8d325c135c9ff12", func := "example.com/lend-hands/lend-hands.LawS1436CSets", spec := "lawS1436CSets", unfollowed := true, recurses := true, apart := false }
def LawS1436CSetsSaid : Prop := lawS1436CSetsRow.holds Yba.pinned (OpenSpec.ofChange lawS1436CSetsSpec)

/-- ITS FALSE NEIGHBOUR: 'it returns false'. Refute it at one input. -/
def lawS1436CSetsWrong : ChangeSpec := { name := "lawS1436CSets", fn := fun _ => fun
  | [d1, d2] => { results := [.lit (.bool false)], args := [d1, d2] }
  | _ => none }
def LawS1436CSetsWrongFalsely : Prop := lawS1436CSetsRow.holds Yba.pinned (OpenSpec.ofChange lawS1436CSetsWrong)

/-- 'lend-hands.LawS1436CLastWins': WHATEVER THE INPUT: true; the input reads as it did. -/
def lawS1436CLastWinsSpec : ChangeSpec := { name := "lawS1436CLastWins", fn := fun _ => fun
  | [d1, d2, d3] => { results := [.lit (.bool true)], args := [d1, d2, d3] }
  | _ => none }
def lawS1436CLastWinsRow : OpenClaim := { program := "ybulkacsg", sum := "819ddb788aa7907497d240cba3c3f78e72a9e3a632669260d8d325c135c9ff12", func := "example.com/lend-hands/lend-hands.LawS1436CLastWins", spec := "lawS1436CLastWins", unfollowed := true, recurses := true, apart := false }
def LawS1436CLastWinsSaid : Prop := lawS1436CLastWinsRow.holds Yba.pinned (OpenSpec.ofChange lawS1436CLastWinsSpec)

/-- ITS FALSE NEIGHBOUR: 'it returns false'. Refute it at one input. -/
def lawS1436CLastWinsWrong : ChangeSpec := { name := "lawS1436CLastWins", fn := fun _ => fun
  | [d1, d2, d3] => { results := [.lit (.bool false)], args := [d1, d2, d3] }
  | _ => none }
def LawS1436CLastWinsWrongFalsely : Prop := lawS1436CLastWinsRow.holds Yba.pinned (OpenSpec.ofChange lawS1436CLastWinsWrong)

end Rows
end Go.Proofs.Ybulkacsg
