import Derived.Test.YbulkacsgGrow
namespace Go.Proofs.Ybulkacsg.Queue
open Go.RowKit
attribute [local go_sem ↓] Go.wp_at_zero Go.wp_at_succ

def vals (b : Int) (k : Nat) : List Int := (List.range k).map fun j => wrap64 (b + (j : Nat))
theorem vals_length (b : Int) (k : Nat) : (vals b k).length = k := by simp [vals]
theorem vals_succ (b : Int) (k : Nat) : vals b (k + 1) = vals b k ++ [wrap64 (b + (k : Nat))] := by simp [vals, List.range_succ]

def Want (n m : Nat) : Prop := m = 16 ∨ (m = 32 ∧ 16 < n) ∨ (m = 64 ∧ 32 < n) ∨ (m = 128 ∧ 64 < n) ∨ (m = 256 ∧ 128 < n) ∨ (m = 512 ∧ 256 < n) ∨ (m = 1024 ∧ 512 < n)
theorem want_step {n m : Nat} (h : Want n m) (hlt : m < n) (hn : n ≤ 1024) : Want n (m * 2) := by unfold Want at *; omega
theorem want_done {n m : Nat} (h : Want n m) (hlt : ¬ m < n) (h0 : n ≠ 0) : m = ring n := by
  unfold Want at h
  unfold ring
  repeat' split
  all_goals omega
theorem want_le {n m : Nat} (h : Want n m) : m ≤ 1024 := by unfold Want at h; omega

theorem cell_val {B Q g : Nat} {row : List Value} {w : World} {b : Int} {n : Nat} (hat : At B Q g (ring n) n row w) (ht : row.take n = (vals b n).map (Value.int .i64)) (k : Nat) (hk : k < n) :
    w.cell? ⟨g, k, none⟩ = some (.int .i64 (wrap64 (b + (k : Nat)))) := by
  have h1 : (row.take n)[k]? = some (.int .i64 (wrap64 (b + (k : Nat)))) := by
    rw [ht]; simp [vals, hk]
  have hh := hat.hg
  rw [List.getElem?_take, if_pos hk] at h1
  simp [World.cell?, hh, h1]

theorem St_new (w : World) (b : Int) : St w.heap.size w.heap.size (vals b 0) (w.alloc (Obj.cells #[Value.slice none 0 0, Value.int IntKind.i64 0, Value.int IntKind.i64 0] 71)) :=
  .inl ⟨rfl, Nat.le_refl _, by simp, heap_alloc_new _ _⟩

set_option maxRecDepth 100000 in
set_option maxHeartbeats 3200000 in
theorem grow_walk (n : Nat) (b : Int) (w : World) (hn : n ≤ 1024) :
    Calls Yba.prog 6 #[.int .u16 n, .int .i64 b] w fun e w' => e = .returned (.bool true) ∧ Below w.heap.size w w' := by
  have i1 : (n : Int) ≤ 1024 := by omega
  go_enter Yba.func6, Yba.ntmps6
  go_wp2_with fail
  go_loopw [7] (fun i wr => ∃ k : Nat, k ≤ n ∧ i = .int .i64 k ∧ Hid (St w.heap.size w.heap.size (vals b k) wr) ∧ Below w.heap.size w wr) (fun i _ => n - (intOf i).toNat)
  case atStart => exact ⟨0, Nat.zero_le _, rfl, St_new w b, (Below.refl _ _).alloc (Nat.le_refl _) _⟩
  case round =>
    obtain ⟨k, hk, rfl, hst, hbel⟩ := hrel
    by_cases hlt : k < n
    · go_wp2_with fail
      refine (push_St w.heap.size w.heap.size (vals b k) _ wr hst.out (by rw [vals_length]; omega) hbel.size).mono ?_
      rintro e w2 ⟨rfl, hst2, hb2⟩
      have HS2 : Hid (St w.heap.size w.heap.size (vals b (k + 1)) w2) := by rw [vals_succ]; exact hst2
      have HB2 : Hid (Below w.heap.size w w2) := hbel.trans hb2
      clear hst2 hb2 hst hbel
      go_wp2
      go_roundw
      case rel => exact ⟨k + 1, by omega, by go_num, HS2, HB2.out⟩
      case measure => simp [intOf]; omega
    · obtain rfl : k = n := by omega
      rcases hst.out with ⟨hv, bQ, lQ, hQ⟩ | ⟨hne, g, row, hat, h1, ht⟩
      · obtain rfl : k = 0 := by have := vals_length b k; rw [hv] at this; simpa using this.symm
        obtain ⟨q0, q1, q2, f0, f1, f2⟩ := cellsQ hQ
        clear hQ f0 f1 f2 hlt hst hv lQ
        have HB2 : Hid (Below w.heap.size w wr) := hbel
        clear hbel
        go_wp2_with fail
        refine wp_loop_rounds 1 ?_
        rw [rounds_succ]
        go_wp2
        go_ret
        exact ⟨rfl, HB2.out⟩
      · have hl := vals_length b k
        rw [hl] at hat ht
        have hk0 : k ≠ 0 := by intro h; subst h; exact hne rfl
        obtain ⟨q0, q1, q2, f0, f1, f2⟩ := cellsQ hat.hQ
        have HC := hide (fun j hj => cell_val hat ht j hj)
        have HB2 : Hid (Below w.heap.size w wr) := hbel
        have i2 : (0 : Int) < (k : Int) := by omega
        clear f0 f1 f2 hlt hst hbel hat ht hne h1 hl
        go_wp2_with fail
        go_loop [8] (fun t => ∃ m : Nat, t = .int .i64 m ∧ Hid (Want k m)) (fun t => k - (intOf t).toNat)
        case atStart => exact ⟨16, rfl, .inl rfl⟩
        case round =>
          obtain ⟨m, rfl, hw⟩ := hrel
          have hm := want_le hw.out
          by_cases hlt : m < k
          · have hw2 := hide (want_step hw.out hlt hn)
            have hm0 : 0 < m := by have := hw.out; unfold Want at this; omega
            clear hw
            go_wp2
            go_round
            case rel => exact ⟨m * 2, by go_num, hw2⟩
            case measure => simp [intOf]; omega
          · obtain rfl := want_done hw.out hlt hk0
            clear hw
            have hrk := (ring_le k hn).2
            have hrk1 : (k : Int) ≤ (ring k : Int) := by omega
            clear hlt
            go_wp2_with fail
            go_loop [9] (fun t => ∃ j : Nat, j ≤ k ∧ t = .int .i64 j) (fun t => k - (intOf t).toNat)
            case atStart => exact ⟨0, Nat.zero_le _, rfl⟩
            case round =>
              obtain ⟨j, hj, rfl⟩ := hrel
              by_cases hlt : j < k
              · have hc := HC.out j hlt
                have j1 : (j : Int) < (ring k : Int) := by omega
                go_wp2
                go_round
                case rel => exact ⟨j + 1, by omega, by go_num⟩
                case measure => simp [intOf]; omega
              · go_wp2
                go_ret
                exact ⟨rfl, HB2.out⟩
end Go.Proofs.Ybulkacsg.Queue
