import Derived.Test.YbulkacsgPool
namespace Go.Proofs.Ybulkacsg.Pool
open Go.RowKit

theorem ret_bool {a b : Bool} (h : a = b) : Ending.returned (.bool a) = .returned (.bool b) := by rw [h]

set_option maxRecDepth 100000 in
set_option maxHeartbeats 1600000 in
theorem repeat_walk (c k C K : Nat) (w : World) (hc : c ≤ 255) (hk : k ≤ 255) (hC : (c : Int) % 16 = (C : Int)) (hK : (k : Int) % 32 = (K : Int)) (_hC2 : C < 16) (_hK2 : K < 32) :
    Calls Yba.prog 4 #[.int .u8 c, .int .u8 k] w fun e w' => e = .returned (.bool true) ∧ Below w.heap.size w w' := by
  go_enter Yba.func4, Yba.ntmps4
  go_wp2_with fail
  have h0 := Is.new w
  have HB0 : Hid (Below w.heap.size w (w.alloc (.cells Yba.zeroCells59 59))) := (Below.refl _ _).alloc (Nat.le_refl _) _
  refine (store64 w.heap.size 1 C _ _ h0.c1 h0.f1).mono ?_
  rintro e w' ⟨rfl, rfl⟩
  have HB1 : Hid (Below w.heap.size w ((w.alloc (.cells Yba.zeroCells59 59)).setCell ⟨w.heap.size, 1, none⟩ (.int .i64 C))) := HB0.out.setCell (Nat.le_refl _) _
  have h1 := h0.setCap C
  clear h0 HB0
  generalize ((w.alloc (.cells Yba.zeroCells59 59)).setCell ⟨w.heap.size, 1, none⟩ (.int .i64 C)) = w1 at *
  go_wp2_with fail
  go_loopw [8, 9] (fun n i wr => ∃ j : Nat, j ≤ K ∧ i = .int .i64 j ∧ n = .int .i64 ((min j C : Nat) : Int) ∧ Is w.heap.size C ((min j C : Nat) : Int) 0 0 wr ∧ Below w.heap.size w wr) (fun _ i _ => K - (intOf i).toNat)
  case atStart => exact ⟨0, Nat.zero_le _, rfl, by simp, by simpa using h1, HB1.out⟩
  case round =>
    clear h1 HB1
    obtain ⟨j, hj, rfl, rfl, his, hbel⟩ := hrel
    have HB2 : Hid (Below w.heap.size w wr) := hbel
    clear hbel
    by_cases hlt : j < K
    · by_cases hjc : j < C
      · have e1 : min j C = j := by omega
        have e2 : min (j + 1) C = j + 1 := by omega
        rw [e1] at his ⊢
        clear e1
        have i1 : (j : Int) < (C : Int) := by omega
        go_wp2_with fail
        refine (once_free w.heap.size C j 0 0 wr his (by simp) (by simp) (by omega) (by omega) (by omega)).mono ?_
        rintro e w' ⟨rfl, rfl⟩
        have HB3 := HB2.out.setCell (p := ⟨w.heap.size, 203, none⟩) (Nat.le_refl _) (.int .i64 ((j : Int) + 1))
        have h3 := his.setPlaced ((j : Int) + 1)
        clear his
        generalize (wr.setCell ⟨w.heap.size, 203, none⟩ (.int .i64 ((j : Int) + 1))) = w3 at *
        go_wp2_with fail
        go_roundw
        case rel => exact ⟨j + 1, by omega, by go_num, by rw [e2]; go_num, by rw [e2]; exact h3, HB3⟩
        case measure => simp [intOf]; omega
      · have e1 : min j C = C := by omega
        have e2 : min (j + 1) C = C := by omega
        rw [e1] at his ⊢
        clear e1
        have i1 : ¬ (j : Int) < (C : Int) := by omega
        go_wp2_with fail
        refine (once_full w.heap.size C C 0 0 wr his (by simp) (by simp) (by omega) (by omega)).mono ?_
        rintro e w' ⟨rfl, rfl⟩
        go_wp2_with fail
        go_roundw
        case rel => exact ⟨j + 1, by omega, by go_num, by rw [e2], by rw [e2]; exact his, HB2.out⟩
        case measure => simp [intOf]; omega
    · go_wp2_with fail
      refine (load64 w.heap.size 203 _ _ his.c2).mono ?_
      rintro e w' ⟨rfl, rfl⟩
      go_wp2_with fail
      go_ret
      exact ⟨by simp, HB2.out⟩
end Go.Proofs.Ybulkacsg.Pool
