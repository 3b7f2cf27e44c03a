import Derived.Test.YbulkacsgRows
import Derived.WalkKit
import Derived.WalkSpells
import Derived.WalkLawsBesides
import Derived.Laws.EntriesVeiled
import Derived.Handy
namespace Go.Proofs.Ybulkacsg.Opts
open Go.RowKit

theorem eq_nil (fn : Fn) (a b : Array Value) (wx : World) : (binOp .eql 82 (.func fn a b) .nilFunc).run Yba.prog wx = .ok (.bool false) wx := by kernel_rfl
theorem eq_nil31 (wx : World) : (binOp .eql 31 .nilFunc .nilFunc).run Yba.prog wx = .ok (.bool true) wx := by kernel_rfl
theorem eq_nil33 (wx : World) : (binOp .eql 33 .nilIface .nilIface).run Yba.prog wx = .ok (.bool true) wx := by kernel_rfl

set_option maxRecDepth 100000 in
theorem with_any (n : Int) (w : World) :
    Calls Yba.prog 19 #[.int .i64 n] w fun e w' => e = .returned (.func (.func 31) #[] #[.pointer (some ⟨w.heap.size, 0, none⟩)]) ∧ w.alloc (.cells #[.int .i64 n] 3) = w' := by
  go_enter Yba.func19, Yba.ntmps19
  go_wp2
  go_ret
  exact ⟨rfl, rfl⟩

set_option maxRecDepth 100000 in
theorem set_any (o c : Nat) (n : Int) (v : Value) (w : World) (hc : w.cell? ⟨c, 0, none⟩ = some (.int .i64 n)) (ho : w.cell? ⟨o, 3, none⟩ = some v) (hf : w.frozen? ⟨o, 3, none⟩ = false) :
    Calls Yba.prog 31 #[.pointer (some ⟨o, 0, none⟩), .pointer (some ⟨c, 0, none⟩)] w fun e w' => e = .returned (.tuple #[]) ∧ w.setCell ⟨o, 3, none⟩ (.int .i64 n) = w' := by
  go_enter Yba.func31, Yba.ntmps31
  go_wp2
  go_end0
  exact ⟨rfl, rfl⟩

set_option maxRecDepth 100000 in
set_option maxHeartbeats 1600000 in
theorem sets_walk (x m tq n : Int) (nb : Bool) (w : World) :
    Calls Yba.prog 7 #[.agg #[.int .i64 x, .int .i64 m, .bool nb, .int .i64 tq], .int .i64 n] w fun e w' => e = .returned (.bool true) ∧ Below w.heap.size w w' := by
  have e1 := eq_nil
  have e2 := eq_nil31
  have e3 := eq_nil33
  go_enter Yba.func7, Yba.ntmps7
  go_wp2_with (first | (go_at_call 19; refine (with_any _ _).mono ?_; rintro e w' ⟨rfl, rfl⟩) | (go_at_call 18; go_in))
  refine (set_any _ _ n (.int .i64 tq) _ ?_ ?_ ?_).mono ?_
  · go_simp
  · go_simp
  · go_simp
  rintro e w' ⟨rfl, rfl⟩
  go_wp2
  go_ret
  exact ⟨by simp, by go_grown⟩

set_option maxRecDepth 100000 in
set_option maxHeartbeats 1600000 in
theorem wins_walk (x m tq a b : Int) (nb : Bool) (w : World) :
    Calls Yba.prog 8 #[.agg #[.int .i64 x, .int .i64 m, .bool nb, .int .i64 tq], .int .i64 a, .int .i64 b] w fun e w' => e = .returned (.bool true) ∧ Below w.heap.size w w' := by
  have e1 := eq_nil
  go_enter Yba.func8, Yba.ntmps8
  go_wp2_with (first | (go_at_call 19; refine (with_any _ _).mono ?_; rintro e w' ⟨rfl, rfl⟩) | (go_at_call 18; go_in))
  refine (set_any _ _ a (.int .i64 tq) _ ?_ ?_ ?_).mono ?_
  · go_simp
  · go_simp
  · go_simp
  rintro e w' ⟨rfl, rfl⟩
  go_wp2_with fail
  refine (set_any _ _ b (.int .i64 a) _ ?_ ?_ ?_).mono ?_
  · go_simp
  · go_simp
  · go_simp
  rintro e w' ⟨rfl, rfl⟩
  go_wp2_with fail
  refine (set_any _ _ b (.int .i64 b) _ ?_ ?_ ?_).mono ?_
  · go_simp
  · go_simp
  · go_simp
  rintro e w' ⟨rfl, rfl⟩
  go_wp2
  go_ret
  exact ⟨by simp, by go_grown⟩
end Go.Proofs.Ybulkacsg.Opts
