import Derived.Test.YbulkacvmBase
import Derived.Lib.EndianBits
namespace Go.Proofs.Ybulkacvm.Big
open Go.RowKit

/-- Eight bytes, the least first, as a number. -/
def word (y : Nat → Int) : Int := y 0 + y 1 * 256 + y 2 * 65536 + y 3 * 16777216 + y 4 * 4294967296 + y 5 * 1099511627776 + y 6 * 281474976710656 + y 7 * 72057594037927936

set_option maxHeartbeats 3200000 in
set_option maxRecDepth 100000 in
theorem be64 (g o c : Nat) (y : Nat → Int) (w : World) (hy : ∀ t, 0 ≤ y t ∧ y t ≤ 255) (hc : ∀ t, t < 8 → w.cell? ⟨g, o + t, none⟩ = some (.int .u8 (y (7 - t)))) :
    Calls Yba.prog 31 #[.slice (some ⟨g, o, none⟩) 8 c] w fun e w' => e = .returned (.int .u64 (word y)) ∧ ∃ d, w' = w.drewN d := by
  have c0 := hc 0 (by omega)
  have b0 := hy 0
  have c1 := hc 1 (by omega)
  have b1 := hy 1
  have c2 := hc 2 (by omega)
  have b2 := hy 2
  have c3 := hc 3 (by omega)
  have b3 := hy 3
  have c4 := hc 4 (by omega)
  have b4 := hy 4
  have c5 := hc 5 (by omega)
  have b5 := hy 5
  have c6 := hc 6 (by omega)
  have b6 := hy 6
  have c7 := hc 7 (by omega)
  have b7 := hy 7
  simp only [Nat.add_zero, Nat.sub_zero, Nat.reduceSub, Nat.sub_self] at c0 c1 c2 c3 c4 c5 c6 c7
  have HV : Hid (word y = y 0 + y 1 * 256 + y 2 * 65536 + y 3 * 16777216 + y 4 * 4294967296 + y 5 * 1099511627776 + y 6 * 281474976710656 + y 7 * 72057594037927936) := rfl
  clear hc hy
  generalize y 0 = y0 at *
  generalize y 1 = y1 at *
  generalize y 2 = y2 at *
  generalize y 3 = y3 at *
  generalize y 4 = y4 at *
  generalize y 5 = y5 at *
  generalize y 6 = y6 at *
  generalize y 7 = y7 at *
  go_enter Yba.func31, Yba.ntmps31
  go_wp2
  go_quiet (fail)
  go_wp2
  go_ret
  refine ⟨?_, _, rfl⟩
  simp (disch := omega) only [u64_or8, u64_or16, u64_or24, u64_or32, u64_or40, u64_or48, u64_or56]
  rw [HV.out]
  rfl

set_option maxRecDepth 100000 in
theorem beWord (g o c : Nat) (y : Nat → Int) (w : World) (hy : ∀ t, 0 ≤ y t ∧ y t ≤ 255) (hc : ∀ t, t < 8 → w.cell? ⟨g, o + t, none⟩ = some (.int .u8 (y (7 - t)))) :
    Calls Yba.prog 27 #[.slice (some ⟨g, o, none⟩) 8 c] w fun e w' => e = .returned (.int .u64 (word y)) ∧ ∃ d, w' = w.drewN d := by
  go_enter Yba.func27, Yba.ntmps27
  go_wp2_with fail
  refine (be64 g o c y w hy hc).mono ?_
  rintro e w' ⟨rfl, d, rfl⟩
  go_wp2
  go_ret
  exact ⟨rfl, d, rfl⟩
end Go.Proofs.Ybulkacvm.Big
