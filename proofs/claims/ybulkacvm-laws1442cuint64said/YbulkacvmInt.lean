import Derived.Test.YbulkacvmSet
import Derived.Test.YbulkacvmReverse
namespace Go.Proofs.Ybulkacvm.Big
open Go.RowKit

theorem wd_zero {bb : Nat → Int} (hb : ∀ j, 0 ≤ bb j ∧ bb j ≤ 255) {i : Nat} (h : wd bb i = 0) (t : Nat) (ht : t < 8) : bb (8 * i + t) = 0 := by
  unfold wd word at h
  dsimp only at h
  have h0 := hb (8 * i + 0); have h1 := hb (8 * i + 1); have h2 := hb (8 * i + 2); have h3 := hb (8 * i + 3)
  have h4 := hb (8 * i + 4); have h5 := hb (8 * i + 5); have h6 := hb (8 * i + 6); have h7 := hb (8 * i + 7)
  rcases (show t = 0 ∨ t = 1 ∨ t = 2 ∨ t = 3 ∨ t = 4 ∨ t = 5 ∨ t = 6 ∨ t = 7 from by omega) with rfl | rfl | rfl | rfl | rfl | rfl | rfl | rfl <;> omega

/-- A nat in memory: m words, the least first, the last of them not 0; the bytes behind them are 0. -/
def IsNat (bb : Nat → Int) (m : Nat) (A : Value) (w : World) : Prop :=
  m ≤ 512 ∧ (∀ j, 8 * m ≤ j → bb j = 0) ∧ (m = 0 ∨ wd bb (m - 1) ≠ 0) ∧
  ((A = .slice none 0 0 ∧ m = 0) ∨ ∃ G cap, A = .slice (some ⟨G, 0, none⟩) m cap ∧ m ≤ cap ∧ G < w.heap.size ∧ ∀ i, i < m → w.cell? ⟨G, i, none⟩ = some (.int .u64 (wd bb i)))

theorem zero_behind {bb : Nat → Int} (hb : ∀ j, 0 ≤ bb j ∧ bb j ≤ 255) {n m : Nat} (hz : ∀ j, n ≤ j → bb j = 0) (h : ∀ i, m ≤ i → i < (n + 7) / 8 → wd bb i = 0) (j : Nat) (hj : 8 * m ≤ j) : bb j = 0 := by
  by_cases hn : n ≤ j
  · exact hz j hn
  · have h1 := wd_zero hb (h (j / 8) (by omega) (by omega)) (j % 8) (by omega)
    have e : 8 * (j / 8) + j % 8 = j := by omega
    rwa [e] at h1

set_option maxRecDepth 100000 in
theorem set_zero (a : Option Addr) (cap : Nat) (w : World) :
    Calls Yba.prog 24 #[.slice none 0 0, .slice a 0 cap] w fun e w' => e = .returned (.slice none 0 0) ∧ w = w' := by
  go_enter Yba.func24, Yba.ntmps24
  go_wp2_with fail
  refine (make_zero w).mono ?_
  rintro e w1 ⟨rfl, rfl⟩
  go_wp2_with fail
  refine wp_loop_rounds 1 ?_
  rw [rounds_succ]
  go_wp2_with fail
  refine (norm_nil _).mono ?_
  rintro e w1 ⟨rfl, rfl⟩
  go_wp2
  go_ret
  exact ⟨rfl, rfl⟩

/-- What buf holds: the bytes bb, the greatest first. -/
def Buf (bb : Nat → Int) (n : Nat) (V : Value) (w : World) : Prop :=
  n ≤ 4096 ∧ (∀ j, n ≤ j → bb j = 0) ∧ ((∃ a c, V = .slice a 0 c ∧ n = 0) ∨ ∃ g cap, V = .slice (some ⟨g, 0, none⟩) n cap ∧ 1 ≤ n ∧ n ≤ cap ∧ ∀ j, j < n → w.cell? ⟨g, j, none⟩ = some (.int .u8 (bb (n - 1 - j))))

theorem set_any (bb : Nat → Int) (n : Nat) (V : Value) (w : World) (hb : ∀ j, 0 ≤ bb j ∧ bb j ≤ 255) (hB : Buf bb n V w) :
    Calls Yba.prog 24 #[.slice none 0 0, V] w fun e w' => ∃ m A, e = .returned A ∧ IsNat bb m A w' ∧ Below w.heap.size w w' := by
  obtain ⟨hn, hz, hV⟩ := hB
  rcases hV with ⟨a, c, rfl, rfl⟩ | ⟨g, cap, rfl, h1, hc, hcell⟩
  · refine (set_zero a c w).mono ?_
    rintro e w' ⟨rfl, rfl⟩
    exact ⟨0, _, rfl, ⟨by omega, fun j _ => hz j (by omega), .inl rfl, .inl ⟨rfl, rfl⟩⟩, Below.refl _ _⟩
  · refine (set_some g n cap bb w h1 hn hc hb hz hcell).mono ?_
    rintro e w' ⟨m, capW, rfl, e1, e2, e3, ⟨f, e4, e5⟩, e6, e7, e8⟩
    refine ⟨m, _, rfl, ⟨by omega, zero_behind hb hz e6, e7, .inr ⟨_, capW, rfl, e2, e4.lt, fun i hi => ?_⟩⟩, e8⟩
    rw [e4.cell (by omega), e5 i hi]

theorem IsNat.keep {bb : Nat → Int} {m : Nat} {A : Value} {w w' : World} (h : IsNat bb m A w) (hs : w.heap.size ≤ w'.heap.size) (hk : ∀ G i v, w.cell? ⟨G, i, none⟩ = some (.int .u64 v) → w'.cell? ⟨G, i, none⟩ = some (.int .u64 v)) : IsNat bb m A w' := by
  obtain ⟨h1, h2, h3, h4⟩ := h
  refine ⟨h1, h2, h3, ?_⟩
  rcases h4 with h4 | ⟨G, cap, e1, e2, e0, e3⟩
  · exact .inl h4
  · exact .inr ⟨G, cap, e1, e2, Nat.lt_of_lt_of_le e0 hs, fun i hi => hk _ _ _ (e3 i hi)⟩

set_option maxRecDepth 100000 in
set_option maxHeartbeats 400000 in
theorem setBytes_any (X : Nat) (bb : Nat → Int) (n : Nat) (V : Value) (w : World) (hb : ∀ j, 0 ≤ bb j ∧ bb j ≤ 255) (hB : Buf bb n V w)
    (hX : w.heap[X]? = some (.cells #[.bool false, .slice none 0 0] 39 (0, 0))) :
    Calls Yba.prog 14 #[.pointer (some ⟨X, 0, none⟩), V] w fun e w' => ∃ m A, e = .returned (.pointer (some ⟨X, 0, none⟩)) ∧ w'.cell? ⟨X, 0, none⟩ = some (.bool false) ∧ w'.cell? ⟨X, 1, none⟩ = some A ∧ IsNat bb m A w' ∧ Below X w w' := by
  have hl : X < w.heap.size := (Array.getElem?_eq_some_iff.1 hX).1
  have x0 : w.cell? ⟨X, 0, none⟩ = some (.bool false) := by simp [World.cell?, hX]
  have x1 : w.cell? ⟨X, 1, none⟩ = some (.slice none 0 0) := by simp [World.cell?, hX]
  have y0 : w.frozen? ⟨X, 0, none⟩ = false := by simp [World.frozen?, hX]
  have y1 : w.frozen? ⟨X, 1, none⟩ = false := by simp [World.frozen?, hX]
  clear hX
  go_enter Yba.func14, Yba.ntmps14
  go_wp2_with fail
  refine (set_any bb n V w hb hB).mono ?_
  rintro e w1 ⟨m, A, rfl, hN, hbel⟩
  have u0 := (hbel.cell (p := ⟨X, 0, none⟩) hl).trans x0
  have u1 := (hbel.cell (p := ⟨X, 1, none⟩) hl).trans x1
  have z0 := (hbel.frozen (p := ⟨X, 0, none⟩) hl).trans y0
  have z1 := (hbel.frozen (p := ⟨X, 1, none⟩) hl).trans y1
  have HN := hide hN
  have HB := hide hbel
  obtain ⟨ao, l, c, rfl⟩ : ∃ ao l c, A = .slice ao l c := by
    rcases hN.2.2.2 with ⟨h, _⟩ | ⟨G, cap, h, _⟩
    · exact ⟨_, _, _, h⟩
    · exact ⟨_, _, _, h⟩
  clear hN hbel
  go_wp2
  go_ret
  refine ⟨m, .slice ao l c, rfl, ?_, ?_, ?_, ?_⟩
  · go_simp
  · go_simp
  · refine HN.out.keep (by simp) (fun G i v hv => ?_)
    by_cases hG : G = X
    · subst hG
      by_cases h0 : i = 0
      · subst h0; rw [u0] at hv; simp at hv
      · by_cases h1 : i = 1
        · subst h1; rw [u1] at hv; simp at hv
        · rw [World.cell?_setCell_other, World.cell?_setCell_other]
          · exact hv
          · simp <;> omega
          · simp <;> omega
    · rw [World.cell?_setCell_other, World.cell?_setCell_other]
      · exact hv
      · simp <;> omega
      · simp <;> omega
  · exact ((HB.out.mono (Nat.le_of_lt hl)).setCell (p := ⟨X, 1, none⟩) (Nat.le_refl _) _).setCell (p := ⟨X, 0, none⟩) (Nat.le_refl _) _

/-- The bytes z, cut at n; behind them zeros. -/
def cut (z : Nat → Int) (n : Nat) : Nat → Int := fun j => if j < n then z j else 0
theorem cut_bd {z : Nat → Int} {n : Nat} (h : ∀ j, j < n → 0 ≤ z j ∧ z j ≤ 255) : ∀ j, 0 ≤ cut z n j ∧ cut z n j ≤ 255 := by
  intro j
  unfold cut
  by_cases hj : j < n
  · rw [if_pos hj]; exact h j hj
  · rw [if_neg hj]; omega
theorem cut_zero (z : Nat → Int) (n j : Nat) (h : n ≤ j) : cut z n j = 0 := by unfold cut; rw [if_neg (by omega)]

/-- A slice of bytes that came in: nil, or n bytes z at an address. -/
def Bytes (z : Nat → Int) (n : Nat) (V : Value) (w : World) : Prop :=
  n ≤ 4096 ∧ (∀ j, j < n → 0 ≤ z j ∧ z j ≤ 255) ∧ ((V = .slice none 0 0 ∧ n = 0) ∨ ∃ ad c, V = .slice (some ad) n c ∧ n ≤ c ∧ ∀ j, j < n → w.cell? (ad.add j) = some (B z j))

theorem new39 (w : World) : (w.alloc (.cells #[.bool false, .slice none 0 0] 39)).heap[w.heap.size]? = some (.cells #[.bool false, .slice none 0 0] 39 (0, 0)) := heap_alloc_new _ _

/-- The end of littleEndianInt. -/
def LeEnd (z : Nat → Int) (n : Nat) (w : World) (e : Ending) (w' : World) : Prop :=
  ∃ X m A, e = .returned (.pointer (some ⟨X, 0, none⟩)) ∧ w.heap.size ≤ X ∧ w'.cell? ⟨X, 0, none⟩ = some (.bool false) ∧ w'.cell? ⟨X, 1, none⟩ = some A ∧ IsNat (cut z n) m A w' ∧ Below w.heap.size w w'

set_option maxRecDepth 100000 in
set_option maxHeartbeats 400000 in
theorem le_nil (z : Nat → Int) (w : World) : Calls Yba.prog 6 #[.slice none 0 0] w (LeEnd z 0 w) := by
  have hN := new39 w
  have HB : Hid (Buf (cut z 0) 0 (.slice none 0 0) (w.alloc (.cells #[.bool false, .slice none 0 0] 39))) := ⟨by omega, fun j _ => cut_zero z 0 j (by omega), .inl ⟨none, 0, rfl, rfl⟩⟩
  have HE : Hid (Below w.heap.size w (w.alloc (.cells #[.bool false, .slice none 0 0] 39))) := (Below.refl _ _).alloc (Nat.le_refl _) _
  have HN := hide hN
  clear hN
  go_enter Yba.func6, Yba.ntmps6
  go_wp2_with fail
  refine (sclone_nil _).mono ?_
  rintro e w1 ⟨rfl, rfl⟩
  go_wp2_with fail
  refine (reverse_nil _).mono ?_
  rintro e w1 ⟨rfl, rfl⟩
  go_wp2_with fail
  refine (setBytes_any _ (cut z 0) 0 _ _ (cut_bd (fun j h => by omega)) HB.out HN.out).mono ?_
  rintro e w1 ⟨m, A, rfl, e1, e2, e3, e4⟩
  have H := hide e3
  have HE2 : Hid (Below w.heap.size w w1) := HE.out.trans (e4.mono (Nat.le_refl _))
  clear e3 e4
  go_wp2
  go_ret
  exact ⟨w.heap.size, m, A, rfl, Nat.le_refl _, e1, e2, H.out, HE2.out⟩

set_option maxRecDepth 100000 in
set_option maxHeartbeats 400000 in
theorem le_some (z : Nat → Int) (ad : Addr) (n c : Nat) (w : World) (hn : n ≤ 4096) (hz : ∀ j, j < n → 0 ≤ z j ∧ z j ≤ 255) (hc : ∀ j, j < n → w.cell? (ad.add j) = some (B z j)) :
    Calls Yba.prog 6 #[.slice (some ad) n c] w (LeEnd z n w) := by
  have HC := hide hc
  clear hc
  go_enter Yba.func6, Yba.ntmps6
  go_wp2_with fail
  refine (sclone_some ad n c z w hn HC.out).mono ?_
  rintro e w1 ⟨g, cap, rfl, hg, hcap, ⟨f, hrow, hf⟩, hb1⟩
  have HR := hide hrow
  have HF := hide hf
  have HB1 := hide hb1
  clear hrow hf hb1
  go_wp2_with fail
  refine (reverse_some g n cap f w1 hn hcap HR.out (fun j hj => ⟨z j, HF.out j hj⟩)).mono ?_
  rintro e w2 ⟨rfl, ⟨f', hrow2, hf2⟩, hb2⟩
  have HB2 : Hid (Below w.heap.size w w2) := HB1.out.trans (hb2.mono hg)
  have HB : Hid (Buf (cut z n) n (.slice (some ⟨g, 0, none⟩) n cap) (w2.alloc (.cells #[.bool false, .slice none 0 0] 39))) := by
    refine ⟨hn, fun j h => cut_zero z n j h, ?_⟩
    by_cases h0 : n = 0
    · subst h0; exact .inl ⟨_, _, rfl, rfl⟩
    · refine .inr ⟨g, cap, rfl, by omega, hcap, fun j hj => ?_⟩
      rw [(hrow2.alloc _).cell (by omega), hf2 j hj, HF.out (n - 1 - j) (by omega)]
      unfold B cut
      rw [if_pos (by omega)]
  have hN := new39 w2
  have HN := hide hN
  have hs := HB2.out.size
  have HE : Hid (Below w.heap.size w (w2.alloc (.cells #[.bool false, .slice none 0 0] 39))) := HB2.out.alloc hs _
  clear hN hrow2 hf2 hb2 HR HF HB1
  go_wp2_with fail
  refine (setBytes_any _ (cut z n) n _ _ (cut_bd hz) HB.out HN.out).mono ?_
  rintro e w3 ⟨m, A, rfl, e1, e2, e3, e4⟩
  have H := hide e3
  have HE2 : Hid (Below w.heap.size w w3) := HE.out.trans (e4.mono hs)
  clear e3 e4
  go_wp2
  go_ret
  exact ⟨w2.heap.size, m, A, rfl, hs, e1, e2, H.out, HE2.out⟩

theorem le_any (z : Nat → Int) (n : Nat) (V : Value) (w : World) (h : Bytes z n V w) : Calls Yba.prog 6 #[V] w (LeEnd z n w) := by
  obtain ⟨hn, hz, hV⟩ := h
  rcases hV with ⟨rfl, rfl⟩ | ⟨ad, c, rfl, _, hc⟩
  · exact le_nil z w
  · exact le_some z ad n c w hn hz hc
end Go.Proofs.Ybulkacvm.Big
