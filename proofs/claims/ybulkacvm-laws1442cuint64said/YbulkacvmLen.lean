import Derived.Test.YbulkacvmInt
import Derived.Test.YbulkacvmLen64
import Derived.OpenShut
namespace Go.Proofs.Ybulkacvm.Big
open Go.RowKit

theorem len64_le (x : Int) (w : World) (h0 : 0 ≤ x) (h1 : x ≤ 18446744073709551615) :
    Calls Yba.prog 30 #[.int .u64 x] w fun e w' => ∃ L : Nat, e = .returned (.int .i64 L) ∧ L ≤ 64 ∧ w = w' := by
  refine (len64 x w h0 h1).mono ?_
  rintro e w' ⟨rfl, rfl⟩
  exact ⟨_, rfl, Lib.bitLen_le x.toNat 64 (by omega) (by omega), rfl⟩

set_option maxRecDepth 100000 in
theorem len_le (x : Int) (w : World) (h0 : 0 ≤ x) (h1 : x ≤ 18446744073709551615) :
    Calls Yba.prog 25 #[.int .u64 x] w fun e w' => ∃ L : Nat, e = .returned (.int .i64 L) ∧ L ≤ 64 ∧ w = w' := by
  go_enter Yba.func25, Yba.ntmps25
  go_wp2_with fail
  refine (len64_le x w h0 h1).mono ?_
  rintro e w' ⟨L, rfl, hL, rfl⟩
  go_wp2
  go_ret
  exact ⟨L, rfl, hL, rfl⟩

theorem or_bd (x y : Int) : 0 ≤ bits .or .u64 x y ∧ bits .or .u64 x y ≤ 18446744073709551615 := bounds_u64 (wf_bits _ _ _ _)

set_option maxRecDepth 100000 in
set_option maxHeartbeats 400000 in
theorem bitLen_one (g cap : Nat) (v : Int) (w : World) (_hv : 0 ≤ v) (_hv2 : v ≤ 18446744073709551615) (hc : w.cell? ⟨g, 0, none⟩ = some (.int .u64 v)) :
    Calls Yba.prog 22 #[.slice (some ⟨g, 0, none⟩) 1 cap] w fun e w' => ∃ L : Nat, e = .returned (.int .i64 L) ∧ L ≤ 64 ∧ w = w' := by
  go_enter Yba.func22, Yba.ntmps22
  go_wp2_with fail
  refine (len_le _ _ (or_bd _ _).1 (or_bd _ _).2).mono ?_
  rintro e w' ⟨L, rfl, hL, rfl⟩
  go_wp2
  go_ret
  exact ⟨L, rfl, hL, rfl⟩

set_option maxRecDepth 100000 in
theorem bitLen_none (a : Option Addr) (cap : Nat) (w : World) : Calls Yba.prog 22 #[.slice a 0 cap] w fun e w' => e = .returned (.int .i64 0) ∧ w = w' := by
  go_enter Yba.func22, Yba.ntmps22
  go_wp2
  go_ret
  exact ⟨rfl, rfl⟩

set_option maxRecDepth 100000 in
theorem low_one (g cap : Nat) (v : Int) (w : World) (hc : w.cell? ⟨g, 0, none⟩ = some (.int .u64 v)) :
    Calls Yba.prog 23 #[.slice (some ⟨g, 0, none⟩) 1 cap] w fun e w' => e = .returned (.int .u64 v) ∧ w = w' := by
  go_enter Yba.func23, Yba.ntmps23
  go_wp2
  go_ret
  exact ⟨rfl, rfl⟩

set_option maxRecDepth 100000 in
theorem low_none (a : Option Addr) (cap : Nat) (w : World) : Calls Yba.prog 23 #[.slice a 0 cap] w fun e w' => e = .returned (.int .u64 0) ∧ w = w' := by
  go_enter Yba.func23, Yba.ntmps23
  go_wp2
  go_ret
  exact ⟨rfl, rfl⟩
end Go.Proofs.Ybulkacvm.Big
