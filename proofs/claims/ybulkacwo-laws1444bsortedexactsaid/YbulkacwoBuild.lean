import Derived.Test.YbulkacwoCommon
namespace Go.Proofs.Ybulkacwo.Sets
open Go.RowKit

theorem info3 : (Yba.prog.info? 3).map (fun i => (i.zero, i.size, i.bytes)) = some (some (.int .i64 0), 1, 8) := by kernel_rfl

/-- The numbers that are built: the i-th. -/
def val (b : Int) (d : Nat → Int) : Nat → Int
  | 0 => b + d 0 % 8
  | i + 1 => val b d i + d (i + 1) % 8 + 1
/-- What v holds behind k rounds. -/
def cur (b : Int) (d : Nat → Int) : Nat → Int
  | 0 => b
  | k + 1 => val b d k

theorem val_bd (b : Int) (d : Nat → Int) : ∀ i, b ≤ val b d i ∧ val b d i ≤ b + 8 * (i : Int) + 8
  | 0 => by simp only [val]; omega
  | i + 1 => by have h := val_bd b d i; simp only [val]; omega
theorem cur_bd (b : Int) (d : Nat → Int) (k : Nat) : b ≤ cur b d k ∧ cur b d k ≤ b + 8 * (k : Int) + 8 := by
  cases k with
  | zero => simp only [cur]; omega
  | succ k => have h := val_bd b d k; simp only [cur]; omega
theorem val_lt (b : Int) (d : Nat → Int) (p : Nat) : ∀ q, p < q → val b d p < val b d q
  | 0, h => by omega
  | q + 1, h => by
    by_cases e : p = q
    · subst e; simp only [val]; omega
    · have h1 := val_lt b d p q (by omega); simp only [val]; omega

def vals (b : Int) (d : Nat → Int) (k : Nat) : List Value := (List.range k).map fun i => .int .i64 (val b d i)
theorem vals_succ (b : Int) (d : Nat → Int) (k : Nat) : vals b d (k + 1) = vals b d k ++ [.int .i64 (val b d k)] := by simp [vals, List.range_succ]

theorem row_of_owns {w : World} {base n cap g : Nat} {b : Int} {d : Nat → Int} (hn : n ≤ 1024) (h : w.ownsRow base 3 1 (.slice (some ⟨g, 0, none⟩) n cap) n (vals b d n)) : Row (val b d) n (some ⟨g, 0, none⟩) cap w := by
  obtain ⟨_, h2⟩ := h
  rcases h2 with ⟨h3, _⟩ | ⟨g', cap', cu, hv, hb, hh, hnc, _, hs, ht⟩
  · simp at h3
  · simp only [Value.slice.injEq, Option.some.injEq, Addr.mk.injEq] at hv
    obtain ⟨⟨rfl, _⟩, _, rfl⟩ := hv
    refine ⟨hn, hnc, fun _ => ⟨g, rfl, fun i hi => ?_⟩⟩
    have h4 : (cu.toList.take (n * 1))[i]? = some (.int .i64 (val b d i)) := by rw [ht]; simp [vals, hi]
    rw [List.getElem?_take, if_pos (by omega), Array.getElem?_toList] at h4
    simp [World.cell?, hh, h4]

theorem eq_nil_some (a : Addr) (n c : Nat) (w : World) : (binOp .eql 44 (.slice (some a) n c) (.slice none 0 0)).run Yba.prog w = .ok (.bool false) w := by kernel_rfl
theorem eq_nil_nil (w : World) : (binOp .eql 44 (.slice none 0 0) (.slice none 0 0)).run Yba.prog w = .ok (.bool true) w := by kernel_rfl

set_option maxRecDepth 100000 in
theorem build_nil (b : Int) (w : World) : Calls Yba.prog 11 #[.int .i8 b, .slice none 0 0] w fun e w' => e = .returned (.slice none 0 0) ∧ w = w' := by
  have h1 := eq_nil_nil
  go_enter Yba.func11, Yba.ntmps11
  go_wp2
  go_ret
  exact ⟨rfl, rfl⟩

theorem plain_addr {w : World} {ad : Addr} {v : Value} (h : w.cell? (ad.add 0) = some v) : ∃ b o, ad = ⟨b, o, none⟩ := by
  have e : ad.add 0 = ad := by cases ad; simp [Addr.add]
  rw [e] at h
  obtain ⟨_, _, _, _, hs⟩ := World.shape?_of_cell? h
  obtain ⟨b, o, sp⟩ := ad
  exact ⟨b, o, by rw [show sp = none from hs]⟩

theorem val_i64 {a b : Int} (h : a = b) : Value.int .i64 a = .int .i64 b := by rw [h]

theorem step_zero (b : Int) (d : Nat → Int) : val b d 0 = cur b d 0 + d 0 % 8 := rfl
theorem step_succ (b : Int) (d : Nat → Int) (k : Nat) : val b d (k + 1) = cur b d (k + 1) + d (k + 1) % 8 + 1 := rfl

set_option maxRecDepth 100000 in
set_option maxHeartbeats 1600000 in
theorem build_some (b : Int) (ad : Addr) (n c : Nat) (d : Nat → Int) (w : World) (hb : -128 ≤ b) (hb2 : b ≤ 127) (hn : n ≤ 1024) (hd : ∀ j, j < n → 0 ≤ d j ∧ d j ≤ 255)
    (hc : ∀ j, j < n → w.cell? (ad.add j) = some (.int .u8 (d j))) :
    Calls Yba.prog 11 #[.int .i8 b, .slice (some ad) n c] w fun e w' => ∃ g ca, e = .returned (.slice (some ⟨g, 0, none⟩) n ca) ∧ Row (val b d) n (some ⟨g, 0, none⟩) ca w' ∧ Below w.heap.size w w' := by
  have h1 := eq_nil_some
  obtain ⟨i0, hi, hz0, hz1, hz2⟩ := info_parts info3
  have HC := hide hc
  have HD := hide hd
  clear hc hd
  have i1 : (n : Int) ≤ 1024 := by omega
  go_enter Yba.func11, Yba.ntmps11
  go_wp2_with (at_make; refine wpList_make_own _ rfl _ _ 23 rfl w.heap.size 3 i0 (.int .i64 0) 1 Yba.underlying23 hi hz0 hz1 .i64 .i64 _ n rfl rfl rfl (by rw [hz2]; omega) (by unfold maxLen; omega) (Nat.le_refl _) ?_; intro w1 hown hgrow)
  have hb1 : Below w.heap.size w w1 := (Below.refl _ _).grown hgrow (Nat.le_refl _) (by intro k hk; cases hk)
  have HO : Hid (w1.ownsRow w.heap.size 3 1 (.slice (some ⟨w.heap.size, 0, none⟩) 0 n) 0 (vals b d 0)) := hown
  clear hown hgrow
  go_loopw [5, 6, 7] (fun o v i wr => ∃ k : Nat, k ≤ n ∧ i = .int .i64 k ∧ v = .int .i64 (cur b d k) ∧ o = .slice (some ⟨w.heap.size, 0, none⟩) k n ∧ Hid (wr.ownsRow w.heap.size 3 1 (.slice (some ⟨w.heap.size, 0, none⟩) k n) k (vals b d k)) ∧ Below w.heap.size w wr) (fun _ _ i _ => n - (intOf i).toNat)
  case atStart => exact ⟨0, by omega, rfl, rfl, rfl, HO, hb1⟩
  case round =>
    clear HO hb1
    obtain ⟨k, hk, rfl, rfl, rfl, hown, hbel⟩ := hrel
    by_cases hlt : k < n
    · obtain ⟨ab, ao, rfl⟩ := plain_addr (HC.out 0 (by omega))
      have hx := HC.out k hlt
      rw [Addr.add_lit] at hx
      have c1 : wr.cell? ⟨ab, ao + k, none⟩ = some (.int .u8 (d k)) := (hbel.cell (World.block_lt_of_cell? w _ hx)).trans hx
      have d1 := HD.out k hlt
      have d2 := cur_bd b d k
      have hsz := hbel.size
      have j1 : (k : Int) < (n : Int) := by omega
      have HB := hide hbel
      clear hx hbel
      by_cases hk0 : k = 0
      · subst hk0
        rw [Nat.add_zero] at c1
        have HV := hide (step_zero b d)
        have HVS := hide (vals_succ b d 0)
        generalize hcu : cur b d 0 = v at *
        clear hcu
        generalize d 0 = x at *
        go_wp2_with (at_builtin; refine wpList_append_fits _ rfl _ _ 23 rfl w.heap.size 3 i0 1 Yba.underlying23 hi hz1 w.heap.size 0 n (vals b d 0) rfl (hown.out.alloc _) ⟨wr.heap.size, 0, none⟩ 1 1 [.int .i64 (v + x % 8)] rfl rfl (cell_one_new _ _ _) (by simp [Value.oneCell']) (by omega) ?_; intro w2 hown2 hgrow2)
        have HO2 : Hid (w2.ownsRow w.heap.size 3 1 (.slice (some ⟨w.heap.size, 0, none⟩) (0 + 1) n) (0 + 1) (vals b d (0 + 1))) := by
          show w2.ownsRow _ _ _ _ _ _; rw [HVS.out, HV.out]; exact hown2
        have HB2 : Hid (Below w.heap.size w w2) := (HB.out.alloc hsz _).grown hgrow2 (by simp; omega) (by intro k hk; simp at hk; omega)
        clear hown2 hgrow2 hown
        go_roundw
        case rel => exact ⟨0 + 1, by omega, rfl, val_i64 HV.out.symm, rfl, HO2, HB2.out⟩
        case measure => simp [intOf]; omega
      · obtain ⟨q, rfl⟩ : ∃ q, k = q + 1 := ⟨k - 1, by omega⟩
        have HV := hide (step_succ b d q)
        have HVS := hide (vals_succ b d (q + 1))
        generalize hcu : cur b d (q + 1) = v at *
        clear hcu
        generalize d (q + 1) = x at *
        go_wp2_with (at_builtin; refine wpList_append_fits _ rfl _ _ 23 rfl w.heap.size 3 i0 1 Yba.underlying23 hi hz1 w.heap.size (q + 1) n (vals b d (q + 1)) rfl (hown.out.alloc _) ⟨wr.heap.size, 0, none⟩ 1 1 [.int .i64 (v + x % 8 + 1)] rfl rfl (cell_one_new _ _ _) (by simp [Value.oneCell']) (by omega) ?_; intro w2 hown2 hgrow2)
        have HO2 : Hid (w2.ownsRow w.heap.size 3 1 (.slice (some ⟨w.heap.size, 0, none⟩) (q + 1 + 1) n) (q + 1 + 1) (vals b d (q + 1 + 1))) := by
          show w2.ownsRow _ _ _ _ _ _; rw [HVS.out, HV.out]; exact hown2
        have HB2 : Hid (Below w.heap.size w w2) := (HB.out.alloc hsz _).grown hgrow2 (by simp; omega) (by intro k hk; simp at hk; omega)
        clear hown2 hgrow2 hown
        go_roundw
        case rel => exact ⟨q + 1 + 1, by omega, by go_num, val_i64 HV.out.symm, rfl, HO2, HB2.out⟩
        case measure => simp [intOf]; omega
    · obtain rfl : k = n := by omega
      have HB := hide hbel
      clear hbel
      go_wp2_with fail
      go_ret
      exact ⟨w.heap.size, k, rfl, row_of_owns hn hown.out, HB.out⟩
end Go.Proofs.Ybulkacwo.Sets
