import Derived.Test.YbulkacvmBytes
namespace Go.Proofs.Ybulkacvm.Big
open Go.RowKit

set_option maxRecDepth 100000 in
theorem bytes_nil (H : Nat) (w : World) : Calls Yba.prog 21 #[.slice none 0 0, .slice (some ⟨H, 0, none⟩) 0 0] w fun e w' => e = .returned (.int .i64 0) ∧ w = w' := by
  go_enter Yba.func21, Yba.ntmps21
  go_wp2_with fail
  refine wp_loop_rounds 1 ?_
  rw [rounds_succ]
  go_wp2_with fail
  refine wp_loop_rounds 1 ?_
  rw [rounds_succ]
  go_wp2
  go_ret
  exact ⟨rfl, rfl⟩

/-- The bytes that are there: K of them, the greatest first and not 0. -/
def Got (bb : Nat → Int) (K : Nat) (V : Value) (w : World) : Prop :=
  K ≤ 4096 ∧ (∀ j, K ≤ j → bb j = 0) ∧ (K = 0 ∨ bb (K - 1) ≠ 0) ∧
  ((∃ a c, V = .slice a 0 c ∧ K = 0) ∨ ∃ H o c, V = .slice (some ⟨H, o, none⟩) K c ∧ 1 ≤ K ∧ ∀ i, i < K → w.cell? ⟨H, o + i, none⟩ = some (.int .u8 (bb (K - 1 - i))))

theorem slice_from (H T k : Nat) (hk : k ≤ T) (wx : World) : (Instr.slice 22 (.slice (some ⟨H, 0, none⟩) T T) (some (.int .i64 (k : Int))) none none).run Yba.prog wx =
    .ok (.slice (if T = k then some ⟨H, 0, none⟩ else some ⟨H, k, none⟩) (T - k) (T - k)) wx := by
  have h := run_slice_l (P := Yba.prog) wx 22 (some ⟨H, 0, none⟩) T T Yba.underlying22 .i64 (k : Int) (by omega) (by omega)
  rw [h]
  have hs : (sizeOf (Yba.prog.elem 22)).run Yba.prog wx = .ok 1 wx := by kernel_rfl
  rw [hs]
  simp [Result.andThen, sliced, Addr.add_lit]

set_option maxRecDepth 100000 in
set_option maxHeartbeats 800000 in
theorem Bytes_nil (X : Nat) (bb : Nat → Int) (w : World) (hN : ∀ j, bb j = 0) (x1 : w.cell? ⟨X, 1, none⟩ = some (.slice none 0 0)) :
    Calls Yba.prog 7 #[.pointer (some ⟨X, 0, none⟩)] w fun e w' => ∃ K V, e = .returned V ∧ Got bb K V w' ∧ Below w.heap.size w w' := by
  have hmk : ∀ wx : World, (Instr.makeSlice 22 (.int .i64 0) (.int .i64 0)).run Yba.prog wx = .ok (.slice (some ⟨wx.heap.size, 0, none⟩) 0 0) (wx.alloc (.cells (madeCells #[.int .u8 0] 0) 5)) :=
    fun wx => run_make_row' (P := Yba.prog) 22 5 (.int .u8 0) 1 Yba.underlying22 info5 rfl .i64 .i64 0 (by omega) (by omega) wx
  have hl := World.block_lt_of_cell? w _ x1
  have hb : Below w.heap.size w (w.alloc (.cells (madeCells #[.int .u8 0] 0) 5)) := (Below.refl _ _).alloc (Nat.le_refl _) _
  have u1 := (hb.cell (p := ⟨X, 1, none⟩) hl).trans x1
  have HN := hide hN
  have HB := hide hb
  have hsl := slice_from w.heap.size 0 0 (by omega)
  clear hN hb
  go_enter Yba.func7, Yba.ntmps7
  go_wp2_with fail
  refine (bytes_nil _ _).mono ?_
  rintro e w1 ⟨rfl, rfl⟩
  go_wp2
  go_ret
  exact ⟨0, .slice (some ⟨w.heap.size, 0, none⟩) 0 0, by simp, ⟨by omega, fun j _ => HN.out j, .inl rfl, .inl ⟨_, _, rfl, rfl⟩⟩, HB.out⟩

set_option maxRecDepth 100000 in
set_option maxHeartbeats 800000 in
theorem Bytes_some (X G cap m T : Nat) (bb : Nat → Int) (w : World) (hm : m ≤ 512) (hT : Hid (T = 8 * m)) (hb : ∀ j, 0 ≤ bb j ∧ bb j ≤ 255) (hz : ∀ j, T ≤ j → bb j = 0)
    (hcell : ∀ i, i < m → w.cell? ⟨G, i, none⟩ = some (.int .u64 (wd bb i))) (hG : G < w.heap.size) (x1 : w.cell? ⟨X, 1, none⟩ = some (.slice (some ⟨G, 0, none⟩) m cap)) :
    Calls Yba.prog 7 #[.pointer (some ⟨X, 0, none⟩)] w fun e w' => ∃ K V, e = .returned V ∧ Got bb K V w' ∧ Below w.heap.size w w' := by
  have hmk : ∀ wx : World, (Instr.makeSlice 22 (.int .i64 ((m : Int) * 8)) (.int .i64 ((m : Int) * 8))).run Yba.prog wx = .ok (.slice (some ⟨wx.heap.size, 0, none⟩) T T) (wx.alloc (.cells (madeCells #[.int .u8 0] T) 5)) := by
    intro wx
    have h := run_make_row' (P := Yba.prog) 22 5 (.int .u8 0) 1 Yba.underlying22 info5 rfl .i64 .i64 T (by have := hT.out; omega) (by have := hT.out; omega) wx
    rw [show ((m : Int) * 8) = (T : Int) from by have := hT.out; omega]
    exact h
  have hl := World.block_lt_of_cell? w _ x1
  have hbl : Below w.heap.size w (w.alloc (.cells (madeCells #[.int .u8 0] T) 5)) := (Below.refl _ _).alloc (Nat.le_refl _) _
  have u1 := (hbl.cell (p := ⟨X, 1, none⟩) hl).trans x1
  have HC : Hid (∀ i, i < m → (w.alloc (.cells (madeCells #[.int .u8 0] T) 5)).cell? ⟨G, i, none⟩ = some (.int .u64 (wd bb i))) := fun i hi => (hbl.cell (by exact hG)).trans (hcell i hi)
  have HR : Hid ((w.alloc (.cells (madeCells #[.int .u8 0] T) 5)).rowIs w.heap.size 5 T (out bb T 0)) := (World.rowIs_made w (.int .u8 0) T 5).congr (fun j hj => by unfold out; rw [if_neg (by omega)])
  have HB := hide hbl
  have HZ := hide hz
  have i2 : (m : Int) ≤ 512 := by omega
  clear hbl hcell hz
  go_enter Yba.func7, Yba.ntmps7
  go_wp2_with fail
  refine (bytes_some G cap w.heap.size m T bb _ hm hT.out hG hb HC.out HR.out).mono ?_
  rintro e w1 ⟨k, rfl, k0, k1, hrow, hk, hk2, hbel⟩
  obtain ⟨n, rfl⟩ := Int.eq_ofNat_of_zero_le k0
  rw [Int.toNat_natCast] at hk hk2
  have hsl := slice_from w.heap.size T n (by omega)
  have HR1 := hide hrow
  have HK := hide hk
  have HK2 := hide hk2
  have HB1 : Hid (Below w.heap.size w w1) := HB.out.trans hbel
  clear hrow hk hk2 hbel
  have HT4 : Hid (T ≤ 4096) := by show _ ≤ _; have := hT.out; omega
  have HZ2 : Hid (∀ j, T - n ≤ j → bb j = 0) := fun j hj => by
    by_cases h : T ≤ j
    · exact HZ.out j h
    · have h2 := HK.out (T - 1 - j) (by omega)
      have e : T - 1 - (T - 1 - j) = j := by omega
      rwa [e] at h2
  by_cases hTn : T = n
  · subst hTn
    go_wp2
    go_ret
    refine ⟨0, .slice (some ⟨w.heap.size, 0, none⟩) 0 0, by simp, ⟨by omega, fun j _ => HZ2.out j (by omega), .inl rfl, .inl ⟨_, _, rfl, rfl⟩⟩, HB1.out⟩
  · go_wp2
    go_ret
    refine ⟨T - n, .slice (some ⟨w.heap.size, n, none⟩) (T - n) (T - n), rfl, ⟨by have := HT4.out; omega, HZ2.out, ?_, .inr ⟨w.heap.size, n, T - n, rfl, by omega, fun i hi => ?_⟩⟩, HB1.out⟩
    · rcases HK2.out with h | h
      · exact absurd h.symm hTn
      · right; have e : T - n - 1 = T - 1 - n := by omega
        rw [e]; exact h
    · rw [HR1.out.cell (by omega)]
      unfold out
      rw [if_pos (by omega)]
      have e : T - 1 - (n + i) = T - n - 1 - i := by omega
      rw [e]

theorem Bytes_any (X : Nat) (bb : Nat → Int) (m : Nat) (A : Value) (w : World) (hb : ∀ j, 0 ≤ bb j ∧ bb j ≤ 255) (hN : IsNat bb m A w) (x1 : w.cell? ⟨X, 1, none⟩ = some A) :
    Calls Yba.prog 7 #[.pointer (some ⟨X, 0, none⟩)] w fun e w' => ∃ K V, e = .returned V ∧ Got bb K V w' ∧ Below w.heap.size w w' := by
  obtain ⟨hm, hz, hnz, hA⟩ := hN
  rcases hA with ⟨rfl, rfl⟩ | ⟨G, cap, rfl, hcap, hG, hcell⟩
  · exact Bytes_nil X bb w (fun j => hz j (by omega)) x1
  · exact Bytes_some X G cap m (8 * m) bb w hm rfl hb hz hcell hG x1
end Go.Proofs.Ybulkacvm.Big
