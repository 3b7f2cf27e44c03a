import Derived.Test.YbulkacvmLen
import Derived.Test.YbulkacvmBytes
namespace Go.Proofs.Ybulkacvm.Big
open Go.RowKit

theorem one_word {bb : Nat → Int} {m : Nat} {A : Value} {w : World} (h : IsNat bb m A w) (hz : ∀ j, 8 ≤ j → bb j = 0) : m ≤ 1 := by
  rcases h.2.2.1 with h | h
  · omega
  · by_cases hm : m ≤ 1
    · exact hm
    · exfalso
      apply h
      unfold wd word
      simp only [hz (8 * (m - 1) + 0) (by omega), hz (8 * (m - 1) + 1) (by omega), hz (8 * (m - 1) + 2) (by omega), hz (8 * (m - 1) + 3) (by omega), hz (8 * (m - 1) + 4) (by omega), hz (8 * (m - 1) + 5) (by omega), hz (8 * (m - 1) + 6) (by omega), hz (8 * (m - 1) + 7) (by omega)]
      omega

/-- An Int of at most one word. -/
def Small (v : Int) (A : Value) (w : World) : Prop :=
  (∃ a c, A = .slice a 0 c ∧ v = 0) ∨ (∃ g c, A = .slice (some ⟨g, 0, none⟩) 1 c ∧ w.cell? ⟨g, 0, none⟩ = some (.int .u64 v))

theorem small_of {bb : Nat → Int} {m : Nat} {A : Value} {w : World} (h : IsNat bb m A w) (hz : ∀ j, 8 ≤ j → bb j = 0) : Small (wd bb 0) A w := by
  have hm := one_word h hz
  obtain ⟨_, h2, _, h4⟩ := h
  by_cases h0 : m = 0
  · subst h0
    have hw : wd bb 0 = 0 := by
      unfold wd word
      simp only [h2 (8 * 0 + 0) (by omega), h2 (8 * 0 + 1) (by omega), h2 (8 * 0 + 2) (by omega), h2 (8 * 0 + 3) (by omega), h2 (8 * 0 + 4) (by omega), h2 (8 * 0 + 5) (by omega), h2 (8 * 0 + 6) (by omega), h2 (8 * 0 + 7) (by omega)]
      omega
    rcases h4 with ⟨rfl, _⟩ | ⟨G, cap, rfl, _⟩
    · exact .inl ⟨_, _, rfl, hw⟩
    · exact .inl ⟨_, _, rfl, hw⟩
  · obtain rfl : m = 1 := by omega
    rcases h4 with ⟨_, h⟩ | ⟨G, cap, rfl, _, _, hc⟩
    · omega
    · exact .inr ⟨G, cap, rfl, hc 0 (by omega)⟩

set_option maxRecDepth 100000 in
theorem sign_any (X : Nat) (v : Int) (A : Value) (w : World) (x0 : w.cell? ⟨X, 0, none⟩ = some (.bool false)) (x1 : w.cell? ⟨X, 1, none⟩ = some A) (h : Small v A w) :
    Calls Yba.prog 9 #[.pointer (some ⟨X, 0, none⟩)] w fun e w' => ∃ s, e = .returned (.int .i64 s) ∧ 0 ≤ s ∧ w = w' := by
  rcases h with ⟨a, c, rfl, _⟩ | ⟨g, c, rfl, hc⟩
  · go_enter Yba.func9, Yba.ntmps9
    go_wp2
    go_ret
    exact ⟨0, rfl, by omega, rfl⟩
  · go_enter Yba.func9, Yba.ntmps9
    go_wp2
    go_ret
    exact ⟨1, rfl, by omega, rfl⟩

set_option maxRecDepth 100000 in
theorem bitLen_any (X : Nat) (v : Int) (A : Value) (w : World) (hv : 0 ≤ v) (hv2 : v ≤ 18446744073709551615) (x1 : w.cell? ⟨X, 1, none⟩ = some A) (h : Small v A w) :
    Calls Yba.prog 10 #[.pointer (some ⟨X, 0, none⟩)] w fun e w' => ∃ L : Nat, e = .returned (.int .i64 L) ∧ L ≤ 64 ∧ w = w' := by
  rcases h with ⟨a, c, rfl, _⟩ | ⟨g, c, rfl, hc⟩
  · go_enter Yba.func10, Yba.ntmps10
    go_wp2_with fail
    refine (bitLen_none a c _).mono ?_
    rintro e w' ⟨rfl, rfl⟩
    go_wp2
    go_ret
    exact ⟨0, rfl, by omega, rfl⟩
  · go_enter Yba.func10, Yba.ntmps10
    go_wp2_with fail
    refine (bitLen_one g c v _ hv hv2 hc).mono ?_
    rintro e w' ⟨L, rfl, hL, rfl⟩
    go_wp2
    go_ret
    exact ⟨L, rfl, hL, rfl⟩

set_option maxRecDepth 100000 in
theorem uint64_any (X : Nat) (v : Int) (A : Value) (w : World) (x1 : w.cell? ⟨X, 1, none⟩ = some A) (h : Small v A w) :
    Calls Yba.prog 11 #[.pointer (some ⟨X, 0, none⟩)] w fun e w' => e = .returned (.int .u64 v) ∧ w = w' := by
  rcases h with ⟨a, c, rfl, rfl⟩ | ⟨g, c, rfl, hc⟩
  · go_enter Yba.func11, Yba.ntmps11
    go_wp2_with fail
    refine (low_none a c _).mono ?_
    rintro e w' ⟨rfl, rfl⟩
    go_wp2
    go_ret
    exact ⟨rfl, rfl⟩
  · go_enter Yba.func11, Yba.ntmps11
    go_wp2_with fail
    refine (low_one g c v _ hc).mono ?_
    rintro e w' ⟨rfl, rfl⟩
    go_wp2
    go_ret
    exact ⟨rfl, rfl⟩

theorem tl_56 {y : Nat → Int} (hy : ∀ t, 0 ≤ y t ∧ y t ≤ 255) (s j : Nat) (hs : s < 8) : 0 ≤ tl y j s ∧ tl y j s < 72057594037927936 := by
  have h := tl_bd hy s j
  generalize tl y j s = D at *
  rcases (show s = 0 ∨ s = 1 ∨ s = 2 ∨ s = 3 ∨ s = 4 ∨ s = 5 ∨ s = 6 ∨ s = 7 from by omega) with rfl | rfl | rfl | rfl | rfl | rfl | rfl | rfl <;> simp at h <;> omega
theorem wd_cut (y : Nat → Int) : wd (cut y 8) 0 = word y := by
  unfold wd word cut
  simp

theorem join8 (x b : Int) (hx : 0 ≤ x) (hx2 : x < 72057594037927936) (hb : 0 ≤ b) (hb2 : b ≤ 255) : bits .or .u64 (x * 256) b = b + 256 * x := by
  have h := bits_join .u64 64 (by decide) wraps_u64 8 (x * 256) b (by omega) (by omega) (by omega) hb (by omega) (by omega)
  rw [h]; omega

set_option maxRecDepth 100000 in
set_option maxHeartbeats 800000 in
theorem law_u64 (y : Nat → Int) (w : World) (hy : ∀ t, 0 ≤ y t ∧ y t ≤ 255) :
    Calls Yba.prog 4 #[.agg #[.int .u8 (y 0), .int .u8 (y 1), .int .u8 (y 2), .int .u8 (y 3), .int .u8 (y 4), .int .u8 (y 5), .int .u8 (y 6), .int .u8 (y 7)]] w fun e w' => e = .returned (.bool true) ∧ Below w.heap.size w w' := by
  have HY := hide hy
  have hblk := heap_alloc_new w (.cells #[.int .u8 (y 0), .int .u8 (y 1), .int .u8 (y 2), .int .u8 (y 3), .int .u8 (y 4), .int .u8 (y 5), .int .u8 (y 6), .int .u8 (y 7)] 29)
  have HC : Hid (∀ t, t < 8 → (w.alloc (.cells #[.int .u8 (y 0), .int .u8 (y 1), .int .u8 (y 2), .int .u8 (y 3), .int .u8 (y 4), .int .u8 (y 5), .int .u8 (y 6), .int .u8 (y 7)] 29)).cell? ⟨w.heap.size, t, none⟩ = some (.int .u8 (y t))) := by
    intro t ht
    generalize w.alloc (.cells #[.int .u8 (y 0), .int .u8 (y 1), .int .u8 (y 2), .int .u8 (y 3), .int .u8 (y 4), .int .u8 (y 5), .int .u8 (y 6), .int .u8 (y 7)] 29) = w1 at *
    rcases (show t = 0 ∨ t = 1 ∨ t = 2 ∨ t = 3 ∨ t = 4 ∨ t = 5 ∨ t = 6 ∨ t = 7 from by omega) with rfl | rfl | rfl | rfl | rfl | rfl | rfl | rfl <;> simp [World.cell?, hblk]
  have HB : Hid (Below w.heap.size w (w.alloc (.cells #[.int .u8 (y 0), .int .u8 (y 1), .int .u8 (y 2), .int .u8 (y 3), .int .u8 (y 4), .int .u8 (y 5), .int .u8 (y 6), .int .u8 (y 7)] 29))) := (Below.refl _ _).alloc (Nat.le_refl _) _
  have hs : (w.alloc (.cells #[.int .u8 (y 0), .int .u8 (y 1), .int .u8 (y 2), .int .u8 (y 3), .int .u8 (y 4), .int .u8 (y 5), .int .u8 (y 6), .int .u8 (y 7)] 29)).heap.size = w.heap.size + 1 := by simp
  have HS := hide hs
  clear hblk hy hs
  go_enter Yba.func4, Yba.ntmps4
  go_wp2_with fail
  generalize w.alloc (.cells #[.int .u8 (y 0), .int .u8 (y 1), .int .u8 (y 2), .int .u8 (y 3), .int .u8 (y 4), .int .u8 (y 5), .int .u8 (y 6), .int .u8 (y 7)] 29) = w1 at *
  go_loop [3, 4] (fun v i => ∃ s : Nat, s ≤ 8 ∧ i = .int .i64 (7 - (s : Int)) ∧ v = .int .u64 (tl y (8 - s) s)) (fun _ i => (intOf i + 1).toNat)
  case atStart => exact ⟨0, by omega, rfl, rfl⟩
  case round =>
    obtain ⟨s, hs, rfl, rfl⟩ := hrel
    by_cases hlt : s < 8
    · obtain ⟨q, hq⟩ : ∃ q : Nat, q = 7 - s := ⟨_, rfl⟩
      rw [show (7 - (s : Int)) = (q : Int) from by omega]
      have c1 := HC.out q (by omega)
      have b1 := HY.out q
      have hq7 : (q : Int) < 8 := by omega
      have HQ := hide hq
      have b2 := tl_56 HY.out s (8 - s) hlt
      have HE : Hid (tl y (8 - (s + 1)) (s + 1) = y q + 256 * tl y (8 - s) s) := by
        show _ = _
        rw [hq]
        simp only [tl]
        have e1 : 8 - (s + 1) = 7 - s := by omega
        have e2 : 7 - s + 1 = 8 - s := by omega
        rw [e1, e2]
      clear hq
      generalize tl y (8 - s) s = D at *
      go_wp2
      go_round
      case rel =>
        refine ⟨s + 1, by omega, by have := HQ.out; go_num, val_u64 ?_⟩
        rw [HE.out]
        exact join8 D (y q) b2.1 b2.2 b1.1 b1.2
      case measure => simp [intOf]
    · obtain rfl : s = 8 := by omega
      have hv : tl y (8 - 8) 8 = word y := (tl_word y).symm
      rw [hv]
      have hbd := tl_bd HY.out 8 0
      rw [← tl_word] at hbd
      simp at hbd
      have HV := hide hbd
      clear hv hbd
      have HBy : Hid (Bytes y 8 (.slice (some ⟨w.heap.size, 0, none⟩) 8 8) w1) := ⟨by omega, fun j _ => HY.out j, .inr ⟨_, _, rfl, by omega, fun j hj => by rw [Addr.add_lit, Nat.zero_add]; exact HC.out j hj⟩⟩
      go_wp2_with fail
      refine (le_any y 8 _ w1 HBy.out).mono ?_
      rintro e w2 ⟨X, m, A, rfl, hX, x0, x1, hN, hb2⟩
      have hsm := small_of hN (fun j hj => cut_zero y 8 j hj)
      rw [wd_cut] at hsm
      have HSM := hide hsm
      have HB2 : Hid (Below w.heap.size w w2) := HB.out.trans (hb2.mono (by have := HS.out; omega))
      clear hN hb2 hsm
      generalize word y = v at *
      go_wp2_with fail
      refine (sign_any X v A w2 x0 x1 HSM.out).mono ?_
      rintro e w3 ⟨s, rfl, hs0, rfl⟩
      go_wp2_with fail
      refine (bitLen_any X v A w2 HV.out.1 (by have := HV.out.2; omega) x1 HSM.out).mono ?_
      rintro e w3 ⟨L, rfl, hL, rfl⟩
      have hL2 : (L : Int) ≤ 64 := by omega
      go_wp2_with fail
      refine (uint64_any X v A w2 x1 HSM.out).mono ?_
      rintro e w3 ⟨rfl, rfl⟩
      go_wp2
      go_ret
      exact ⟨by simp, HB2.out⟩
end Go.Proofs.Ybulkacvm.Big
