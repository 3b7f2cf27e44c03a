import Derived.Test.YbulkacvmWord
namespace Go.Proofs.Ybulkacvm.Big
open Go.RowKit

def U (v : Nat → Int) : Nat → Value := fun j => .int .u64 (v j)

/-! ### (nat).make of the nil nat -/

set_option maxRecDepth 100000 in
theorem make_zero (w : World) : Calls Yba.prog 26 #[.slice none 0 0, .int .i64 0] w fun e w' => e = .returned (.slice none 0 0) ∧ w = w' := by
  go_enter Yba.func26, Yba.ntmps26
  go_wp2
  go_ret
  exact ⟨rfl, rfl⟩

set_option maxRecDepth 100000 in
theorem make_one (w : World) : Calls Yba.prog 26 #[.slice none 0 0, .int .i64 1] w fun e w' => e = .returned (.slice (some ⟨w.heap.size, 0, none⟩) 1 1) ∧ w.alloc (.cells (madeCells #[.int .u64 0] 1) 43) = w' := by
  have hmk : ∀ wx : World, (Instr.makeSlice 37 (.int .i64 1) (.int .i64 1)).run Yba.prog wx = .ok (.slice (some ⟨wx.heap.size, 0, none⟩) 1 1) (wx.alloc (.cells (madeCells #[.int .u64 0] 1) 43)) :=
    fun wx => run_make_row' (P := Yba.prog) 37 43 (.int .u64 0) 8 Yba.underlying37 info43 rfl .i64 .i64 1 (by omega) (by omega) wx
  go_enter Yba.func26, Yba.ntmps26
  go_wp2
  go_ret
  exact ⟨rfl, rfl⟩

set_option maxRecDepth 100000 in
theorem make_more (n : Nat) (w : World) (h2 : 2 ≤ n) (h3 : n ≤ 1000) : Calls Yba.prog 26 #[.slice none 0 0, .int .i64 n] w fun e w' => e = .returned (.slice (some ⟨w.heap.size, 0, none⟩) n (n + 4)) ∧ w.alloc (.cells (madeCells #[.int .u64 0] (n + 4)) 43) = w' := by
  have hmk : ∀ wx : World, (Instr.makeSlice 37 (.int .i64 n) (.int .i64 ((n : Int) + 4))).run Yba.prog wx = .ok (.slice (some ⟨wx.heap.size, 0, none⟩) n (n + 4)) (wx.alloc (.cells (madeCells #[.int .u64 0] (n + 4)) 43)) := by
    intro wx
    obtain ⟨i0, hi, hz0, hz1, hz2⟩ := info_parts info43
    have h := run_make (P := Yba.prog) wx 37 43 i0 (.int .u64 0) Yba.underlying37 hi hz0 .i64 .i64 n ((n : Int) + 4) (by omega) (by omega) (by rw [hz2]; omega) (by omega)
    rw [hz1] at h
    have e1 : ((n : Int) + 4).toNat = n + 4 := by omega
    rw [e1, Int.toNat_natCast, Nat.mul_one] at h
    exact h
  have i1 : ¬ (n : Int) ≤ 0 := by omega
  have i2 : ((n : Int) == 1) = false := beq_eq_false_iff_ne.2 (by omega)
  go_enter Yba.func26, Yba.ntmps26
  go_wp2
  go_ret
  exact ⟨rfl, rfl⟩

theorem make_some (n : Nat) (s : Int) (hs : s = (n : Int)) (w : World) (h2 : 1 ≤ n) (h3 : n ≤ 1000) :
    Calls Yba.prog 26 #[.slice none 0 0, .int .i64 s] w fun e w' => ∃ cap, e = .returned (.slice (some ⟨w.heap.size, 0, none⟩) n cap) ∧ n ≤ cap ∧ cap ≤ 2000 ∧ w'.rowIs w.heap.size 43 cap (U fun _ => 0) ∧ Below w.heap.size w w' := by
  subst hs
  by_cases h : n = 1
  · subst h
    refine (make_one w).mono ?_
    rintro e w' ⟨rfl, rfl⟩
    exact ⟨1, rfl, by omega, by omega, World.rowIs_made w (.int .u64 0) 1 43, (Below.refl _ _).alloc (Nat.le_refl _) _⟩
  · refine (make_more n w (by omega) h3).mono ?_
    rintro e w' ⟨rfl, rfl⟩
    exact ⟨n + 4, rfl, by omega, by omega, World.rowIs_made w (.int .u64 0) (n + 4) 43, (Below.refl _ _).alloc (Nat.le_refl _) _⟩

/-! ### (nat).norm -/

set_option maxRecDepth 100000 in
theorem norm_nil (w : World) : Calls Yba.prog 28 #[.slice none 0 0] w fun e w' => e = .returned (.slice none 0 0) ∧ w = w' := by
  have hsl : ∀ wx, (Instr.slice 37 (.slice none 0 0) (some (.int .i64 0)) (some (.int .i64 0)) none).run Yba.prog wx = .ok (.slice none 0 0) wx := fun _ => by kernel_rfl
  go_enter Yba.func28, Yba.ntmps28
  go_wp2_with fail
  refine wp_loop_rounds 1 ?_
  rw [rounds_succ]
  go_wp2
  go_ret
  exact ⟨rfl, rfl⟩

set_option maxRecDepth 100000 in
set_option maxHeartbeats 800000 in
theorem norm_some (g M cap : Nat) (v : Nat → Int) (w : World) (hM : M ≤ 1000) (hc : M ≤ cap) (hcell : ∀ i, i < M → w.cell? ⟨g, i, none⟩ = some (.int .u64 (v i))) :
    Calls Yba.prog 28 #[.slice (some ⟨g, 0, none⟩) M cap] w fun e w' => ∃ m, e = .returned (.slice (some ⟨g, 0, none⟩) m cap) ∧ m ≤ M ∧ (∀ i, m ≤ i → i < M → v i = 0) ∧ (m = 0 ∨ v (m - 1) ≠ 0) ∧ w = w' := by
  have HC := hide hcell
  clear hcell
  go_enter Yba.func28, Yba.ntmps28
  go_wp2_with fail
  go_loop [3] (fun t => ∃ m : Nat, t = .int .i64 m ∧ m ≤ M ∧ Hid (∀ i, m ≤ i → i < M → v i = 0)) (fun t => (intOf t).toNat)
  case atStart => exact ⟨M, rfl, Nat.le_refl _, fun i h1 h2 => by omega⟩
  case round =>
    obtain ⟨m, rfl, hm, hz⟩ := hrel
    by_cases h0 : m = 0
    · subst h0
      go_wp2
      go_ret
      exact ⟨0, rfl, by omega, hz.out, .inl rfl, rfl⟩
    · obtain ⟨q, rfl⟩ : ∃ q, m = q + 1 := ⟨m - 1, by omega⟩
      have c1 := HC.out q (by omega)
      have i1 : (q : Int) < (M : Int) := by omega
      have i2 : (M : Int) ≤ 1000 := by omega
      have i3 : (M : Int) ≤ (cap : Int) := by omega
      by_cases hv : v q = 0
      · rw [hv] at c1
        have HZ : Hid (∀ i, q ≤ i → i < M → v i = 0) := fun i h1 h2 => by
          by_cases e : i = q
          · rw [e]; exact hv
          · exact hz.out i (by omega) h2
        clear hv hz
        go_wp2
        go_round
        case rel => exact ⟨q, by go_num, by omega, HZ⟩
        case measure => simp [intOf]
      · have HV := hide hv
        have hvb : (v q == 0) = false := by simp [hv]
        clear hv
        go_wp2
        go_ret
        exact ⟨q + 1, by simp, hm, hz.out, .inr (by simpa using HV.out), rfl⟩
end Go.Proofs.Ybulkacvm.Big
