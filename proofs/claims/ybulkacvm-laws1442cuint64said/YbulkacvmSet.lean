import Derived.Test.YbulkacvmNat
namespace Go.Proofs.Ybulkacvm.Big
open Go.RowKit

/-- The i-th word of the bytes bb, the least first. -/
def wd (bb : Nat → Int) (i : Nat) : Int := word fun t => bb (8 * i + t)
/-- The first k words; behind them zeros. -/
def upTo (bb : Nat → Int) (k : Nat) : Nat → Int := fun i => if i < k then wd bb i else 0

theorem upTo_set (bb : Nat → Int) (k j : Nat) : (if j = k then Value.int .u64 (wd bb k) else U (upTo bb k) j) = U (upTo bb (k + 1)) j := by
  unfold U upTo
  by_cases h : j = k
  · subst h; simp
  · by_cases h2 : j < k
    · rw [if_neg h, if_pos h2, if_pos (by omega)]
    · rw [if_neg h, if_neg h2, if_neg (by omega)]

/-- The first t of eight bytes, as a number. -/
def part (y : Nat → Int) (t : Nat) : Int := (if 0 < t then y 0 else 0) + (if 1 < t then y 1 * 256 else 0) + (if 2 < t then y 2 * 65536 else 0) + (if 3 < t then y 3 * 16777216 else 0) + (if 4 < t then y 4 * 4294967296 else 0) + (if 5 < t then y 5 * 1099511627776 else 0) + (if 6 < t then y 6 * 281474976710656 else 0) + (if 7 < t then y 7 * 72057594037927936 else 0)

theorem part_zero (y : Nat → Int) : part y 0 = 0 := by simp [part]
theorem part_word (y : Nat → Int) (r : Nat) (h : ∀ t, r ≤ t → y t = 0) : part y r = word y := by
  have e : ∀ t, (if t < r then y t else 0) = y t := fun t => by
    by_cases ht : t < r
    · rw [if_pos ht]
    · rw [if_neg ht, h t (by omega)]
  have e' : ∀ (t : Nat) (c : Int), (if t < r then y t * c else 0) = y t * c := fun t c => by
    by_cases ht : t < r
    · rw [if_pos ht]
    · rw [if_neg ht, h t (by omega)]; simp
  unfold part word
  rw [e, e', e', e', e', e', e', e']

theorem u64_or0 (x : Int) (hx0 : 0 ≤ x) (hx1 : x < 18446744073709551616) : bits .or .u64 0 x = x := by
  have h := bits_join_low .u64 64 (by decide) wraps_u64 0 0 x (by omega) (by omega) (by omega) hx0 (by omega) hx1
  rw [h]; omega
theorem val_u64 {a b : Int} (h : a = b) : Value.int .u64 a = .int .u64 b := by rw [h]

set_option maxRecDepth 100000 in
set_option maxHeartbeats 1600000 in
theorem set_some (g n cap : Nat) (bb : Nat → Int) (w : World) (h1 : 1 ≤ n) (hn : n ≤ 4096) (hc : n ≤ cap) (hb : ∀ j, 0 ≤ bb j ∧ bb j ≤ 255) (hz : ∀ j, n ≤ j → bb j = 0)
    (hcell : ∀ j, j < n → w.cell? ⟨g, j, none⟩ = some (.int .u8 (bb (n - 1 - j)))) :
    Calls Yba.prog 24 #[.slice none 0 0, .slice (some ⟨g, 0, none⟩) n cap] w fun e w' => ∃ m capW, e = .returned (.slice (some ⟨w.heap.size, 0, none⟩) m capW) ∧ m ≤ (n + 7) / 8 ∧ m ≤ capW ∧ capW ≤ 2000 ∧
      (∃ f, w'.rowIs w.heap.size 43 capW f ∧ ∀ i, i < m → f i = .int .u64 (wd bb i)) ∧ (∀ i, m ≤ i → i < (n + 7) / 8 → wd bb i = 0) ∧ (m = 0 ∨ wd bb (m - 1) ≠ 0) ∧ Below w.heap.size w w' := by
  have hg : g < w.heap.size := World.block_lt_of_cell? w _ (hcell 0 (by omega))
  have HC := hide hcell
  have HZ := hide hz
  clear hcell hz
  have i1 : (n : Int) ≤ 4096 := by omega
  have i2 : (n : Int) ≤ (cap : Int) := by omega
  go_enter Yba.func24, Yba.ntmps24
  go_wp2_with fail
  refine (make_some ((n + 7) / 8) _ (by omega) w (by omega) (by omega)).mono ?_
  rintro e w1 ⟨capW, rfl, hM1, hM2, hrow, hbel⟩
  obtain ⟨M, hM⟩ : ∃ M, M = (n + 7) / 8 := ⟨_, rfl⟩
  have HM := hide hM
  rw [← hM] at hM1
  rw [← hM]
  clear hM
  have HR : Hid (w1.rowIs w.heap.size 43 capW (U (upTo bb 0))) := hrow.congr (fun i _ => by simp [U, upTo])
  clear hrow
  go_wp2_with fail
  go_loopw [5, 6] (fun i k wr => ∃ q r : Nat, 8 * q + r = n ∧ i = .int .i64 r ∧ k = .int .i64 q ∧ Hid (wr.rowIs w.heap.size 43 capW (U (upTo bb q))) ∧ Below w.heap.size w wr) (fun i _ _ => (intOf i).toNat)
  case atStart => exact ⟨0, n, by omega, rfl, rfl, HR, hbel⟩
  case round =>
    clear HR hbel
    obtain ⟨q, r, hqr, rfl, rfl, hr, hbel⟩ := hrel
    have HQ := hide hqr
    have hrn : r ≤ n := by omega
    clear hqr
    by_cases hlt : 8 ≤ r
    · obtain ⟨p, rfl⟩ : ∃ p, r = p + 8 := ⟨r - 8, by omega⟩
      have hqM : q < M := by have := HM.out; have := HQ.out; omega
      have j1 : (q : Int) < (M : Int) := by omega
      have j3 : ¬ cap = p := by omega
      have hcw : q < capW := by omega
      obtain ⟨v0, c0⟩ : ∃ v0, wr.cell? ⟨w.heap.size, q, none⟩ = some v0 := ⟨_, hr.out.cell hcw⟩
      have f0 := hr.out.frozen q
      have HW : Hid (∀ t, t < 8 → wr.cell? ⟨g, p + t, none⟩ = some (.int .u8 ((fun t => bb (8 * q + t)) (7 - t)))) := fun t ht => by
        rw [hbel.cell (by exact hg), HC.out (p + t) (by omega)]
        have := HQ.out
        have e : n - 1 - (p + t) = 8 * q + (7 - t) := by omega
        rw [e]
      have HB : Hid (Below w.heap.size w wr) := hbel
      clear hbel
      go_wp2_with fail
      refine (beWord g p (cap - p) (fun t => bb (8 * q + t)) wr (fun t => hb _) HW.out).mono ?_
      rintro e w2 ⟨rfl, d, rfl⟩
      clear HW
      go_wp2
      go_roundw
      case rel =>
        refine ⟨q + 1, p, by have := HQ.out; omega, rfl, by go_num, ?_, ?_⟩
        · exact (hr.out.set q (.int .u64 (wd bb q))).congr (fun j _ => upTo_set bb q j)
        · exact below_drewN (HB.out.setCell (p := ⟨w.heap.size, q, none⟩) (Nat.le_refl _) _) _
      case measure => simp [intOf]; omega
    · by_cases hr0 : r = 0
      · subst hr0
        have HB : Hid (Below w.heap.size w wr) := hbel
        have hqM : q = M := by have := HM.out; have := HQ.out; omega
        subst hqM
        clear hbel
        go_wp2_with fail
        refine (norm_some w.heap.size q capW (upTo bb q) wr (by have := HM.out; omega) hM1 (fun i hi => hr.out.cell (by omega))).mono ?_
        rintro e w2 ⟨m, rfl, e1, e2, e3, rfl⟩
        have HE := hide e2
        have HE3 := hide e3
        clear e2 e3
        go_wp2
        go_ret
        have hu : ∀ i, i < q → upTo bb q i = wd bb i := fun i hi => by unfold upTo; rw [if_pos hi]
        refine ⟨m, capW, rfl, by have := HM.out; omega, by omega, hM2, ⟨_, hr.out, fun i hi => ?_⟩, fun i h1 h2 => ?_, ?_, HB.out⟩
        · unfold U; rw [hu i (by omega)]
        · rw [← hu i (by have := HM.out; omega)]; exact HE.out i h1 (by have := HM.out; omega)
        · rcases HE3.out with h | h
          · exact .inl h
          · by_cases hm0 : m = 0
            · exact .inl hm0
            · right; rw [← hu (m - 1) (by omega)]; exact h
      · have HB : Hid (Below w.heap.size w wr) := hbel
        have hqM : M = q + 1 := by have := HM.out; have := HQ.out; omega
        have HY : Hid (∀ t, t < r → wr.cell? ⟨g, r - t - 1, none⟩ = some (.int .u8 (bb (8 * q + t)))) := fun t ht => by
          rw [hbel.cell (by exact hg), HC.out (r - t - 1) (by omega)]
          have := HQ.out
          have e : n - 1 - (r - t - 1) = 8 * q + t := by omega
          rw [e]
        clear hbel
        have j0 : 0 < r := by omega
        have j1 : (r : Int) < 8 := by omega
        go_wp2_with fail
        go_loop [5, 7, 8] (fun i d s => ∃ t : Nat, t ≤ r ∧ i = .int .i64 ((r : Int) - t) ∧ d = .int .u64 (part (fun t => bb (8 * q + t)) t) ∧ s = .int .u64 (8 * (t : Int))) (fun i _ _ => (intOf i).toNat)
        case atStart => exact ⟨0, by omega, by simp, by rw [part_zero], by simp⟩
        case round =>
          obtain ⟨t, ht, rfl, rfl, rfl⟩ := hrel
          by_cases htr : t < r
          · have cy := HY.out t htr
            have by1 := hb (8 * q + t)
            obtain ⟨z, hz⟩ : ∃ z, z = r - t - 1 := ⟨_, rfl⟩
            rw [← hz] at cy
            rw [show ((r : Int) - (t : Int)) = (z : Int) + 1 from by omega]
            have k1 : (z : Int) < (n : Int) := by omega
            have k2 : (z : Int) < 8 := by omega
            have HTZ : Hid (t + z + 1 = r) := by show _ = _; omega
            clear hz HY
            rcases (show t = 0 ∨ t = 1 ∨ t = 2 ∨ t = 3 ∨ t = 4 ∨ t = 5 ∨ t = 6 from by omega) with rfl | rfl | rfl | rfl | rfl | rfl | rfl
            · have HS : Hid (part (fun t => bb (8 * q + t)) 1 = part (fun t => bb (8 * q + t)) 0 + bb (8 * q + 0) * 1) := by show _ = _; simp [part]
              rw [part_zero, show (8 * ((0 : Nat) : Int)) = 0 from rfl]
              have hp0 := part_zero (fun t => bb (8 * q + t))
              have HP0 := hide hp0
              clear hp0
              generalize bb (8 * q + 0) = y at *
              go_wp2
              go_round
              case rel =>
                refine ⟨1, by omega, by have := HTZ.out; go_num, ?_, by go_num⟩
                refine val_u64 ?_
                rw [HS.out]
                rw [HP0.out]
                rw [u64_or0 y (by omega) (by omega)]; omega
              case measure => simp [intOf]
            · have HS : Hid (part (fun t => bb (8 * q + t)) 2 = part (fun t => bb (8 * q + t)) 1 + bb (8 * q + 1) * 256) := by show _ = _; simp [part]
              have hP : 0 ≤ part (fun t => bb (8 * q + t)) 1 ∧ part (fun t => bb (8 * q + t)) 1 < 256 := by
                have := hb (8 * q); have := hb (8 * q + 1); have := hb (8 * q + 2); have := hb (8 * q + 3); have := hb (8 * q + 4); have := hb (8 * q + 5); have := hb (8 * q + 6)
                simp [part]; omega
              rw [show (8 * ((1 : Nat) : Int)) = 8 from rfl]
              generalize part (fun t => bb (8 * q + t)) 1 = P at *
              generalize bb (8 * q + 1) = y at *
              go_wp2
              go_round
              case rel =>
                refine ⟨2, by omega, by have := HTZ.out; go_num, ?_, by go_num⟩
                refine val_u64 ?_
                rw [HS.out]
                exact u64_or8 _ _ (by omega) (by omega) (by omega) (by omega) (by omega)
              case measure => simp [intOf]
            · have HS : Hid (part (fun t => bb (8 * q + t)) 3 = part (fun t => bb (8 * q + t)) 2 + bb (8 * q + 2) * 65536) := by show _ = _; simp [part]
              have hP : 0 ≤ part (fun t => bb (8 * q + t)) 2 ∧ part (fun t => bb (8 * q + t)) 2 < 65536 := by
                have := hb (8 * q); have := hb (8 * q + 1); have := hb (8 * q + 2); have := hb (8 * q + 3); have := hb (8 * q + 4); have := hb (8 * q + 5); have := hb (8 * q + 6)
                simp [part]; omega
              rw [show (8 * ((2 : Nat) : Int)) = 16 from rfl]
              generalize part (fun t => bb (8 * q + t)) 2 = P at *
              generalize bb (8 * q + 2) = y at *
              go_wp2
              go_round
              case rel =>
                refine ⟨3, by omega, by have := HTZ.out; go_num, ?_, by go_num⟩
                refine val_u64 ?_
                rw [HS.out]
                exact u64_or16 _ _ (by omega) (by omega) (by omega) (by omega) (by omega)
              case measure => simp [intOf]
            · have HS : Hid (part (fun t => bb (8 * q + t)) 4 = part (fun t => bb (8 * q + t)) 3 + bb (8 * q + 3) * 16777216) := by show _ = _; simp [part]
              have hP : 0 ≤ part (fun t => bb (8 * q + t)) 3 ∧ part (fun t => bb (8 * q + t)) 3 < 16777216 := by
                have := hb (8 * q); have := hb (8 * q + 1); have := hb (8 * q + 2); have := hb (8 * q + 3); have := hb (8 * q + 4); have := hb (8 * q + 5); have := hb (8 * q + 6)
                simp [part]; omega
              rw [show (8 * ((3 : Nat) : Int)) = 24 from rfl]
              generalize part (fun t => bb (8 * q + t)) 3 = P at *
              generalize bb (8 * q + 3) = y at *
              go_wp2
              go_round
              case rel =>
                refine ⟨4, by omega, by have := HTZ.out; go_num, ?_, by go_num⟩
                refine val_u64 ?_
                rw [HS.out]
                exact u64_or24 _ _ (by omega) (by omega) (by omega) (by omega) (by omega)
              case measure => simp [intOf]
            · have HS : Hid (part (fun t => bb (8 * q + t)) 5 = part (fun t => bb (8 * q + t)) 4 + bb (8 * q + 4) * 4294967296) := by show _ = _; simp [part]
              have hP : 0 ≤ part (fun t => bb (8 * q + t)) 4 ∧ part (fun t => bb (8 * q + t)) 4 < 4294967296 := by
                have := hb (8 * q); have := hb (8 * q + 1); have := hb (8 * q + 2); have := hb (8 * q + 3); have := hb (8 * q + 4); have := hb (8 * q + 5); have := hb (8 * q + 6)
                simp [part]; omega
              rw [show (8 * ((4 : Nat) : Int)) = 32 from rfl]
              generalize part (fun t => bb (8 * q + t)) 4 = P at *
              generalize bb (8 * q + 4) = y at *
              go_wp2
              go_round
              case rel =>
                refine ⟨5, by omega, by have := HTZ.out; go_num, ?_, by go_num⟩
                refine val_u64 ?_
                rw [HS.out]
                exact u64_or32 _ _ (by omega) (by omega) (by omega) (by omega) (by omega)
              case measure => simp [intOf]
            · have HS : Hid (part (fun t => bb (8 * q + t)) 6 = part (fun t => bb (8 * q + t)) 5 + bb (8 * q + 5) * 1099511627776) := by show _ = _; simp [part]
              have hP : 0 ≤ part (fun t => bb (8 * q + t)) 5 ∧ part (fun t => bb (8 * q + t)) 5 < 1099511627776 := by
                have := hb (8 * q); have := hb (8 * q + 1); have := hb (8 * q + 2); have := hb (8 * q + 3); have := hb (8 * q + 4); have := hb (8 * q + 5); have := hb (8 * q + 6)
                simp [part]; omega
              rw [show (8 * ((5 : Nat) : Int)) = 40 from rfl]
              generalize part (fun t => bb (8 * q + t)) 5 = P at *
              generalize bb (8 * q + 5) = y at *
              go_wp2
              go_round
              case rel =>
                refine ⟨6, by omega, by have := HTZ.out; go_num, ?_, by go_num⟩
                refine val_u64 ?_
                rw [HS.out]
                exact u64_or40 _ _ (by omega) (by omega) (by omega) (by omega) (by omega)
              case measure => simp [intOf]
            · have HS : Hid (part (fun t => bb (8 * q + t)) 7 = part (fun t => bb (8 * q + t)) 6 + bb (8 * q + 6) * 281474976710656) := by show _ = _; simp [part]
              have hP : 0 ≤ part (fun t => bb (8 * q + t)) 6 ∧ part (fun t => bb (8 * q + t)) 6 < 281474976710656 := by
                have := hb (8 * q); have := hb (8 * q + 1); have := hb (8 * q + 2); have := hb (8 * q + 3); have := hb (8 * q + 4); have := hb (8 * q + 5); have := hb (8 * q + 6)
                simp [part]; omega
              rw [show (8 * ((6 : Nat) : Int)) = 48 from rfl]
              generalize part (fun t => bb (8 * q + t)) 6 = P at *
              generalize bb (8 * q + 6) = y at *
              go_wp2
              go_round
              case rel =>
                refine ⟨7, by omega, by have := HTZ.out; go_num, ?_, by go_num⟩
                refine val_u64 ?_
                rw [HS.out]
                exact u64_or48 _ _ (by omega) (by omega) (by omega) (by omega) (by omega)
              case measure => simp [intOf]
          · obtain rfl : t = r := by omega
            have hw : part (fun t => bb (8 * q + t)) t = wd bb q := part_word _ _ (fun j hj => HZ.out _ (by have := HQ.out; omega))
            rw [hw]
            clear hw HY
            subst hqM
            have j2 : (q : Int) < 1000 := by have := HM.out; omega
            obtain ⟨v0, c0⟩ : ∃ v0, wr.cell? ⟨w.heap.size, q, none⟩ = some v0 := ⟨_, hr.out.cell (by omega)⟩
            have f0 := hr.out.frozen q
            have HR2 : Hid ((wr.setCell ⟨w.heap.size, q, none⟩ (.int .u64 (wd bb q))).rowIs w.heap.size 43 capW (U (upTo bb (q + 1)))) := (hr.out.set q (.int .u64 (wd bb q))).congr (fun j _ => upTo_set bb q j)
            have HB2 : Hid (Below w.heap.size w (wr.setCell ⟨w.heap.size, q, none⟩ (.int .u64 (wd bb q)))) := HB.out.setCell (p := ⟨w.heap.size, q, none⟩) (Nat.le_refl _) _
            clear hr HB
            go_wp2_with fail
            refine (norm_some w.heap.size (q + 1) capW (upTo bb (q + 1)) _ (by omega) hM1 (fun i hi => HR2.out.cell (by omega))).mono ?_
            rintro e w2 ⟨m, rfl, e1, e2, e3, rfl⟩
            have HE := hide e2
            have HE3 := hide e3
            clear e2 e3
            go_wp2
            go_ret
            have hu : ∀ i, i < q + 1 → upTo bb (q + 1) i = wd bb i := fun i hi => by unfold upTo; rw [if_pos hi]
            refine ⟨m, capW, rfl, by have := HM.out; omega, by omega, hM2, ⟨_, HR2.out, fun i hi => ?_⟩, fun i h1 h2 => ?_, ?_, HB2.out⟩
            · unfold U; rw [hu i (by omega)]
            · rw [← hu i (by have := HM.out; omega)]; exact HE.out i h1 (by have := HM.out; omega)
            · rcases HE3.out with h | h
              · exact .inl h
              · by_cases hm0 : m = 0
                · exact .inl hm0
                · right; rw [← hu (m - 1) (by omega)]; exact h
end Go.Proofs.Ybulkacvm.Big
