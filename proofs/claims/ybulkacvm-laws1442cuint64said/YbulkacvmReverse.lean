import Derived.Test.YbulkacvmBase
namespace Go.Proofs.Ybulkacvm.Big
open Go.RowKit
attribute [local go_sem ↓] Go.wp_at_zero Go.wp_at_succ

/-- Behind k rounds of the exchange. -/
def rev (n k : Nat) (f : Nat → Value) : Nat → Value := fun j => if j < k ∨ (n - k ≤ j ∧ j < n) then f (n - 1 - j) else f j

theorem rev_zero (n : Nat) (f : Nat → Value) (j : Nat) : rev n 0 f j = f j := by
  unfold rev; rw [if_neg (by omega)]
theorem rev_step {n k : Nat} (f : Nat → Value) (h : k < n - 1 - k) (j : Nat) :
    (if j = n - 1 - k then rev n k f k else if j = k then rev n k f (n - 1 - k) else rev n k f j) = rev n (k + 1) f j := by
  unfold rev
  by_cases h1 : j = n - 1 - k
  · rw [if_pos h1, if_neg (by omega), if_pos (by omega)]; congr 1; omega
  · rw [if_neg h1]
    by_cases h2 : j = k
    · rw [if_pos h2, if_neg (by omega), if_pos (by omega)]; congr 1; omega
    · rw [if_neg h2]
      by_cases h3 : j < k ∨ (n - k ≤ j ∧ j < n)
      · rw [if_pos h3, if_pos (by omega)]
      · rw [if_neg h3, if_neg (by omega)]
theorem rev_done {n k : Nat} (f : Nat → Value) (h : ¬ k < n - 1 - k) (hk : k ≤ n) (j : Nat) (hj : j < n) : rev n k f j = f (n - 1 - j) := by
  unfold rev
  by_cases h3 : j < k ∨ (n - k ≤ j ∧ j < n)
  · rw [if_pos h3]
  · rw [if_neg h3]; congr 1; omega

theorem rowIs_bytes {w : World} {g t n : Nat} {f : Nat → Value} (h : w.rowIs g t n f) {g2 : Nat → Value} (e : ∀ j, f j = g2 j) : w.rowIs g t n g2 := h.congr (fun i _ => e i)

theorem reverse_nil (w : World) : Calls Yba.prog 13 #[.slice none 0 0] w fun e w' => e = .returned (.tuple #[]) ∧ w = w' := by
  go_enter Yba.func13, Yba.ntmps13
  go_wp2_with fail
  refine wp_loop_rounds 1 ?_
  rw [rounds_succ]
  go_wp2
  go_end0
  exact ⟨rfl, rfl⟩

set_option maxRecDepth 100000 in
set_option maxHeartbeats 800000 in
theorem reverse_some (g n cap : Nat) (f : Nat → Value) (w : World) (hn : n ≤ 4096) (hc : n ≤ cap) (h : w.rowIs g 5 cap f) (hf : ∀ j, j < n → ∃ x, f j = .int .u8 x) :
    Calls Yba.prog 13 #[.slice (some ⟨g, 0, none⟩) n cap] w fun e w' => e = .returned (.tuple #[]) ∧ (∃ f', w'.rowIs g 5 cap f' ∧ ∀ j, j < n → f' j = f (n - 1 - j)) ∧ Below g w w' := by
  have H := hide h
  clear h
  go_enter Yba.func13, Yba.ntmps13
  go_wp2_with fail
  go_loopw [2, 3] (fun i j wr => ∃ k : Nat, k ≤ n ∧ i = .int .i64 k ∧ j = .int .i64 ((n : Int) - 1 - k) ∧ Hid (wr.rowIs g 5 cap (rev n k f)) ∧ Below g w wr) (fun i _ _ => n - (intOf i).toNat)
  case atStart => exact ⟨0, Nat.zero_le _, rfl, by simp, rowIs_bytes H.out (fun j => (rev_zero n f j).symm), Below.refl _ _⟩
  case round =>
    obtain ⟨k, hk, rfl, rfl, hr, hb⟩ := hrel
    by_cases hlt : k < n - 1 - k
    · obtain ⟨m, hm⟩ : ∃ m : Nat, (n : Int) - 1 - k = (m : Int) ∧ m = n - 1 - k := ⟨n - 1 - k, by omega, rfl⟩
      rw [hm.1]
      obtain ⟨hm1, hm2⟩ := hm
      clear hm1
      have hx : rev n k f k = f k := by unfold rev; rw [if_neg (by omega)]
      have hy : rev n k f m = f m := by unfold rev; rw [if_neg (by omega)]
      obtain ⟨x, hx2⟩ := hf k (by omega)
      obtain ⟨y, hy2⟩ := hf m (by omega)
      have c1 : wr.cell? ⟨g, k, none⟩ = some (.int .u8 x) := by rw [hr.out.cell (i := k) (by omega), hx, hx2]
      have c2 : wr.cell? ⟨g, m, none⟩ = some (.int .u8 y) := by rw [hr.out.cell (i := m) (by omega), hy, hy2]
      have f1 := hr.out.frozen k
      have f2 := hr.out.frozen m
      have hkm : ¬ k = m := by omega
      have hmk : ¬ m = k := by omega
      have i1 : (k : Int) < (m : Int) := by omega
      have i2 : (m : Int) < (n : Int) := by omega
      have i3 : (k : Int) < (n : Int) := by omega
      have i4 : (n : Int) ≤ 4096 := by omega
      have HM := hide hm2
      have HX := hide (hx.trans hx2)
      have HY := hide (hy.trans hy2)
      have HB : Hid (Below g w wr) := hb
      clear hx hx2 hy hy2 hm2 hb hf
      go_wp2_with fail
      go_region
      go_wp2
      go_roundw
      case rel =>
        refine ⟨k + 1, by omega, by go_num, ?_, ?_, ?_⟩
        · have := HM.out; go_num
        · have h2 := (hr.out.set k (.int .u8 y)).set m (.int .u8 x)
          refine rowIs_bytes h2 (fun j => ?_)
          have e := rev_step f hlt j
          rw [← HM.out, HX.out, HY.out] at e
          exact e
        · exact ((HB.out.setCell (Nat.le_refl _) _).setCell (Nat.le_refl _) _).drew
      case measure => simp [intOf]; omega
    · have HB : Hid (Below g w wr) := hb
      clear hb
      have hlt' : ¬ (k : Int) < (n : Int) - 1 - (k : Int) := by omega
      go_wp2
      go_end0
      exact ⟨rfl, ⟨_, hr.out, fun j hj => rev_done f hlt hk j hj⟩, HB.out⟩
end Go.Proofs.Ybulkacvm.Big
