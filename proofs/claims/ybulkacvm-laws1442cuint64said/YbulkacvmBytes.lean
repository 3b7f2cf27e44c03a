import Derived.Test.YbulkacvmInt
namespace Go.Proofs.Ybulkacvm.Big
open Go.RowKit

/-- Bytes j, j + 1, .. (k of them) as a number. -/
def tl (y : Nat → Int) : Nat → Nat → Int
  | _, 0 => 0
  | j, k + 1 => y j + 256 * tl y (j + 1) k
theorem tl_word (y : Nat → Int) : word y = tl y 0 8 := by simp only [tl, word, Nat.zero_add, Nat.reduceAdd]; omega
theorem tl_bd {y : Nat → Int} (hy : ∀ t, 0 ≤ y t ∧ y t ≤ 255) : ∀ k j, 0 ≤ tl y j k ∧ tl y j k < 256 ^ k := by
  intro k
  induction k with
  | zero => intro j; simp [tl]
  | succ k ih =>
    intro j
    have h := ih (j + 1)
    have h2 := hy j
    rw [Int.pow_succ]
    simp only [tl]
    omega
theorem tl_step {y : Nat → Int} (hy : ∀ t, 0 ≤ y t ∧ y t ≤ 255) {t : Nat} (ht : t < 8) :
    tl y t (8 - t) % 256 = y t ∧ tl y t (8 - t) / 256 = tl y (t + 1) (8 - (t + 1)) := by
  have e : 8 - t = (8 - (t + 1)) + 1 := by omega
  rw [e]
  simp only [tl]
  have h := hy t
  omega
theorem tl_64 {y : Nat → Int} (hy : ∀ t, 0 ≤ y t ∧ y t ≤ 255) (t : Nat) : 0 ≤ tl y t (8 - t) ∧ tl y t (8 - t) < 18446744073709551616 := by
  have h := tl_bd hy (8 - t) t
  have hk : 8 - t ≤ 8 := by omega
  generalize 8 - t = k at *
  rcases (show k = 0 ∨ k = 1 ∨ k = 2 ∨ k = 3 ∨ k = 4 ∨ k = 5 ∨ k = 6 ∨ k = 7 ∨ k = 8 from by omega) with rfl | rfl | rfl | rfl | rfl | rfl | rfl | rfl | rfl <;> simp at h <;> omega

/-- The row of T bytes when L of them have been written, from its end. -/
def out (bb : Nat → Int) (T L : Nat) : Nat → Value := fun j => .int .u8 (if T - L ≤ j then bb (T - 1 - j) else 0)
theorem out_set (bb : Nat → Int) {T L : Nat} (h : L < T) (j : Nat) : (if j = T - L - 1 then Value.int .u8 (bb L) else out bb T L j) = out bb T (L + 1) j := by
  unfold out
  by_cases h1 : j = T - L - 1
  · rw [if_pos h1, if_pos (by omega)]; congr 2; omega
  · rw [if_neg h1]
    by_cases h2 : T - L ≤ j
    · rw [if_pos h2, if_pos (by omega)]
    · rw [if_neg h2, if_neg (by omega)]

set_option maxRecDepth 100000 in
set_option maxHeartbeats 1600000 in
theorem bytes_some (G capG H m T : Nat) (bb : Nat → Int) (w : World) (hm : m ≤ 512) (hT : T = 8 * m) (hGH : G < H) (hb : ∀ j, 0 ≤ bb j ∧ bb j ≤ 255)
    (hcell : ∀ i, i < m → w.cell? ⟨G, i, none⟩ = some (.int .u64 (wd bb i))) (hrow : w.rowIs H 5 T (out bb T 0)) :
    Calls Yba.prog 21 #[.slice (some ⟨G, 0, none⟩) m capG, .slice (some ⟨H, 0, none⟩) T T] w fun e w' => ∃ k, e = .returned (.int .i64 k) ∧ 0 ≤ k ∧ k ≤ T ∧
      w'.rowIs H 5 T (out bb T T) ∧ (∀ j, j < k.toNat → bb (T - 1 - j) = 0) ∧ (k.toNat = T ∨ bb (T - 1 - k.toNat) ≠ 0) ∧ Below H w w' := by
  have HC := hide hcell
  have HR := hide hrow
  have HT := hide hT
  have i1 : (T : Int) ≤ 4096 := by omega
  have i2 : (m : Int) ≤ 512 := by omega
  clear hcell hrow hT
  go_enter Yba.func21, Yba.ntmps21
  go_wp2_with fail
  go_loopw [4, 12] (fun i x wr => ∃ q : Nat, q ≤ m ∧ x = .int .i64 q ∧ i = .int .i64 ((T : Int) - 8 * (q : Int)) ∧ Hid (wr.rowIs H 5 T (out bb T (8 * q))) ∧ Below H w wr) (fun _ x _ => m - (intOf x).toNat)
  case atStart => exact ⟨0, by omega, rfl, by simp, HR, Below.refl _ _⟩
  case round =>
    obtain ⟨q, hq, rfl, rfl, hr, hbel⟩ := hrel
    clear HR
    by_cases hlt : q < m
    · have cq : wr.cell? ⟨G, q, none⟩ = some (.int .u64 (wd bb q)) := (hbel.cell (by exact hGH)).trans (HC.out q hlt)
      have HB : Hid (Below H w wr) := hbel
      clear hbel
      obtain ⟨y, hyd⟩ : ∃ y : Nat → Int, y = fun t => bb (8 * q + t) := ⟨_, rfl⟩
      have hy : ∀ t, 0 ≤ y t ∧ y t ≤ 255 := fun t => by rw [hyd]; exact hb _
      have hw : wd bb q = tl y 0 8 := by rw [← tl_word, hyd]; rfl
      rw [hw] at cq
      have HY := hide hyd
      have HYB := hide hy
      clear hw hyd hy
      have j0 : 8 * (q : Int) + 8 ≤ (T : Int) := by have := HT.out; omega
      go_wp2_with fail
      go_loopw [4, 6, 7] (fun i d s wi => ∃ t : Nat, t ≤ 8 ∧ s = .int .i64 t ∧ i = .int .i64 ((T : Int) - 8 * (q : Int) - (t : Int)) ∧ d = .int .u64 (tl y t (8 - t)) ∧ Hid (wi.rowIs H 5 T (out bb T (8 * q + t))) ∧ Below H w wi) (fun _ _ s _ => 8 - (intOf s).toNat)
      case atStart => exact ⟨0, by omega, rfl, by simp, rfl, hr, HB.out⟩
      case round =>
        obtain ⟨t, ht, rfl, rfl, rfl, hr2, hbel2⟩ := hrel
        have HB2 := hide hbel2
        clear hbel2 HB hr cq
        by_cases ht8 : t < 8
        · obtain ⟨p, hp⟩ : ∃ p : Nat, p = T - (8 * q + t) - 1 := ⟨_, rfl⟩
          rw [show ((T : Int) - 8 * (q : Int) - (t : Int)) = (p : Int) + 1 from by omega]
          have hpT : p < T := by omega
          have j1 : (p : Int) < (T : Int) := by omega
          have HP := hide hp
          clear hp
          obtain ⟨v0, c0⟩ : ∃ v0, wr.cell? ⟨H, p, none⟩ = some v0 := ⟨_, hr2.out.cell hpT⟩
          have f0 := hr2.out.frozen p
          obtain ⟨e1, e2⟩ := tl_step HYB.out ht8
          have e3 := tl_64 HYB.out t
          have HE1 : Hid (tl y t (8 - t) % 256 = bb (8 * q + t)) := by show _ = _; rw [e1, HY.out]
          have HE2 := hide e2
          clear e1 e2
          generalize tl y t (8 - t) = D at *
          go_wp2
          go_roundw
          case rel =>
            refine ⟨t + 1, by omega, by go_num, by have := HP.out; go_num, val_u64 HE2.out, ?_, ?_⟩
            · refine (hr2.out.set p (.int .u8 (D % 256))).congr (fun j _ => ?_)
              have e := out_set bb (T := T) (L := 8 * q + t) (by omega) j
              rw [← HP.out, ← HE1.out] at e
              exact e
            · exact HB2.out.setCell (p := ⟨H, p, none⟩) (Nat.le_refl _) _
          case measure => simp [intOf]; omega
        · obtain rfl : t = 8 := by omega
          have HR3 : Hid (wr.rowIs H 5 T (out bb T (8 * (q + 1)))) := hr2
          clear hr2
          go_wp2
          go_roundw
          case rel => exact ⟨q + 1, by omega, by go_num, by go_num, HR3, HB2.out⟩
          case measure => simp [intOf]; omega
    · obtain rfl : q = m := by omega
      rw [show ((T : Int) - 8 * (q : Int)) = 0 from by have := HT.out; omega]
      have HR3 : Hid (wr.rowIs H 5 T (out bb T T)) := by have h := hr.out; rw [← HT.out] at h; exact h
      have HB := hide hbel
      clear hr hbel
      go_wp2_with fail
      go_loop [4] (fun i => ∃ k : Nat, k ≤ T ∧ i = .int .i64 k ∧ Hid (∀ j, j < k → bb (T - 1 - j) = 0)) (fun i => T - (intOf i).toNat)
      case atStart => exact ⟨0, by omega, rfl, fun j h => by omega⟩
      case round =>
        obtain ⟨k, hk, rfl, hz⟩ := hrel
        by_cases hkT : k < T
        · have ck : wr.cell? ⟨H, k, none⟩ = some (.int .u8 (bb (T - 1 - k))) := by
            rw [HR3.out.cell hkT]; unfold out; rw [if_pos (by omega)]
          by_cases hv : bb (T - 1 - k) = 0
          · have HZ : Hid (∀ j, j < k + 1 → bb (T - 1 - j) = 0) := fun j hj => by
              by_cases e : j = k
              · rw [e]; exact hv
              · exact hz.out j (by omega)
            rw [hv] at ck
            clear hv hz
            go_wp2
            go_round
            case rel => exact ⟨k + 1, by omega, by go_num, HZ⟩
            case measure => simp [intOf]; omega
          · have HV := hide hv
            have hvb : (bb (T - 1 - k) == 0) = false := by simp [hv]
            clear hv
            go_wp2
            go_ret
            exact ⟨k, by simp, by omega, by omega, HR3.out, by simpa using hz.out, .inr (by simpa using HV.out), HB.out⟩
        · obtain rfl : k = T := by omega
          go_wp2
          go_ret
          exact ⟨k, by simp, by omega, by omega, HR3.out, by simpa using hz.out, .inl (by simp), HB.out⟩
end Go.Proofs.Ybulkacvm.Big
