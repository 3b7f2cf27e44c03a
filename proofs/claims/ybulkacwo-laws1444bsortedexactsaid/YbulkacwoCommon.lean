import Derived.Test.YbulkacwoSets
namespace Go.Proofs.Ybulkacwo.Sets
open Go.RowKit

set_option maxRecDepth 100000 in
set_option maxHeartbeats 1600000 in
theorem common_any (A C : Nat → Int) (n m : Nat) (pa pb : Option Addr) (ca cb : Nat) (w : World) (hA : Row A n pa ca w) (hC : Row C m pb cb w) :
    Calls Yba.prog 13 #[.slice pa n ca, .slice pb m cb] w fun e w' => ∃ r, e = .returned (.bool r) ∧ (r = true ↔ Meet A C n m) ∧ ∃ d, w' = w.drewN d := by
  obtain ⟨g, hg, cA⟩ := row_g hA
  obtain ⟨h, hh, cC⟩ := row_g hC
  have HG := hide hg
  have HH := hide hh
  have HCA := hide cA
  have HCC := hide cC
  have hn := hA.1
  have hm := hC.1
  clear hg hh cA cC hA hC
  have i1 : (n : Int) ≤ 1024 := by omega
  have i2 : (m : Int) ≤ 1024 := by omega
  go_enter Yba.func13, Yba.ntmps13
  go_wp2_with fail
  go_loopw [5] (fun x wr => ∃ i : Nat, i ≤ n ∧ x = .int .i64 i ∧ Hid (∀ p q, p < i → q < m → A p ≠ C q) ∧ ∃ d, wr = w.drewN d) (fun x _ => n - (intOf x).toNat)
  case atStart => exact ⟨0, by omega, rfl, fun p q hp => by omega, 0, rfl⟩
  case round =>
    obtain ⟨i, hi, rfl, hz, d, rfl⟩ := hrel
    by_cases hin : i < n
    · obtain rfl := HG.out (by omega)
      have c1 := HCA.out i hin
      have j1 : (i : Int) < (n : Int) := by omega
      go_wp2_with fail
      go_loopw [6] (fun x wr => ∃ j : Nat, j ≤ m ∧ x = .int .i64 j ∧ Hid (∀ q, q < j → A i ≠ C q) ∧ ∃ d, wr = w.drewN d) (fun x _ => m - (intOf x).toNat)
      case atStart => exact ⟨0, by omega, rfl, fun q hq => by omega, _, rfl⟩
      case round =>
        obtain ⟨j, hj, rfl, hz2, d2, rfl⟩ := hrel
        by_cases hjm : j < m
        · obtain rfl := HH.out (by omega)
          have c2 := HCC.out j hjm
          have j2 : (j : Int) < (m : Int) := by omega
          by_cases hv : A i = C j
          · have HV := hide hv
            have hvb : (A i == C j) = true := by simp [hv]
            clear hv
            go_wp2_with fail
            go_quiet (fail)
            go_wp2_with fail
            go_ret
            exact ⟨true, rfl, ⟨fun _ => ⟨i, j, hin, hjm, HV.out⟩, fun _ => rfl⟩, d2 + nq, by simp⟩
          · have HV := hide hv
            have hvb : (A i == C j) = false := by simp [hv]
            have HZ3 : Hid (∀ q, q < j + 1 → A i ≠ C q) := fun q hq => by
              by_cases e : q = j
              · rw [e]; exact hv
              · exact hz2.out q (by omega)
            clear hv
            go_wp2_with fail
            go_quiet (fail)
            go_wp2_with fail
            go_roundw
            case rel => exact ⟨j + 1, by omega, by go_num, HZ3, _, rfl⟩
            case measure => simp [intOf]; omega
        · have HZ3 : Hid (∀ p q, p < i + 1 → q < m → A p ≠ C q) := fun p q hp hq => by
            by_cases e : p = i
            · rw [e]; exact hz2.out q (by omega)
            · exact hz.out p q (by omega) hq
          go_wp2_with fail
          go_roundw
          case rel => exact ⟨i + 1, by omega, by go_num, HZ3, _, rfl⟩
          case measure => simp [intOf]; omega
    · go_wp2_with fail
      go_ret
      refine ⟨false, rfl, ⟨fun h => (by cases h), fun ⟨p, q, hp, hq, e⟩ => ?_⟩, _, rfl⟩
      exact absurd e (hz.out p q (by omega) hq)
end Go.Proofs.Ybulkacwo.Sets
