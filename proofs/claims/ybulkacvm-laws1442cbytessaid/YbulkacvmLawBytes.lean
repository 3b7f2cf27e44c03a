import Derived.Test.YbulkacvmEqual
namespace Go.Proofs.Ybulkacvm.Big
open Go.RowKit

theorem Bytes.keep {z : Nat → Int} {n : Nat} {V : Value} {w w' : World} {b : Nat} (h : Bytes z n V w) (hb : Below b w w') (hs : w.heap.size ≤ b) : Bytes z n V w' := by
  obtain ⟨h1, h2, h3⟩ := h
  refine ⟨h1, h2, ?_⟩
  rcases h3 with h3 | ⟨ad, c, e1, e2, e3⟩
  · exact .inl h3
  · exact .inr ⟨ad, c, e1, e2, fun j hj => (hb.cell (Nat.lt_of_lt_of_le (World.block_lt_of_cell? w _ (e3 j hj)) hs)).trans (e3 j hj)⟩

theorem Bytes.asText {z : Nat → Int} {n : Nat} {V : Value} {w : World} (h : Bytes z n V w) : (convert 22 9 V).run Yba.prog w = .ok (.string (str z n)) w := by
  obtain ⟨_, _, h3⟩ := h
  rcases h3 with ⟨rfl, rfl⟩ | ⟨ad, c, rfl, _, e3⟩
  · exact conv_nil w z
  · exact conv_some w ad n c z e3

/-- The clone: n bytes z in a row of the call's own (or nothing at all). -/
structure Own (z : Nat → Int) (n : Nat) (a : Option Addr) (c : Nat) (w : World) : Prop where
  bytes : Bytes z n (.slice a n c) w
  row : 0 < n → ∃ g, a = some ⟨g, 0, none⟩ ∧ ∀ j, j < n → w.cell? ⟨g, j, none⟩ = some (.int .u8 (z j))

theorem Own.keep {z : Nat → Int} {n : Nat} {a : Option Addr} {c : Nat} {w w' : World} {b : Nat} (h : Own z n a c w) (hb : Below b w w') (hs : w.heap.size ≤ b) : Own z n a c w' := by
  refine ⟨h.bytes.keep hb hs, fun hn => ?_⟩
  obtain ⟨g, e1, e2⟩ := h.row hn
  exact ⟨g, e1, fun j hj => (hb.cell (Nat.lt_of_lt_of_le (World.block_lt_of_cell? w _ (e2 j hj)) hs)).trans (e2 j hj)⟩

theorem bclone_any (z : Nat → Int) (n : Nat) (a : Option Addr) (c : Nat) (w : World) (h : Bytes z n (.slice a n c) w) :
    Calls Yba.prog 5 #[.slice a n c] w fun e w' => ∃ ao co, e = .returned (.slice ao n co) ∧ Own z n ao co w' ∧ Below w.heap.size w w' := by
  have h0 := h
  obtain ⟨hn, hz, hV⟩ := h
  rcases hV with ⟨h1, h2⟩ | ⟨ad, c', h1, hc, hcell⟩
  · simp only [Value.slice.injEq] at h1
    obtain ⟨rfl, rfl, rfl⟩ := h1
    refine (bclone_nil w).mono ?_
    rintro e w' ⟨rfl, rfl⟩
    exact ⟨none, 0, rfl, ⟨h0, fun hn => by omega⟩, Below.refl _ _⟩
  · simp only [Value.slice.injEq, true_and] at h1
    obtain ⟨rfl, rfl⟩ := h1
    refine (bclone_some ad n c z w hn hcell).mono ?_
    rintro e w' ⟨g, cap, rfl, hg, hcap, ⟨f, hrow, hf⟩, hb⟩
    have hcl : ∀ j, j < n → w'.cell? ⟨g, j, none⟩ = some (.int .u8 (z j)) := fun j hj => by rw [hrow.cell (by omega), hf j hj]; rfl
    refine ⟨some ⟨g, 0, none⟩, cap, rfl, ⟨⟨hn, hz, .inr ⟨_, _, rfl, hcap, fun j hj => ?_⟩⟩, fun _ => ⟨g, rfl, hcl⟩⟩, hb⟩
    rw [Addr.add_lit, Nat.zero_add]; exact hcl j hj

theorem Got.form {bb : Nat → Int} {K : Nat} {V : Value} {w : World} (h : Got bb K V w) :
    ∃ ag cg, V = .slice ag K cg ∧ (0 < K → ∃ H o, ag = some ⟨H, o, none⟩ ∧ ∀ i, i < K → w.cell? ⟨H, o + i, none⟩ = some (.int .u8 (bb (K - 1 - i)))) := by
  obtain ⟨_, _, _, h4⟩ := h
  rcases h4 with ⟨a, c, rfl, rfl⟩ | ⟨H, o, c, rfl, _, hc⟩
  · exact ⟨a, c, rfl, fun h => by omega⟩
  · exact ⟨_, c, rfl, fun _ => ⟨H, o, rfl, hc⟩⟩

/-- The number of bytes that count is told by the bytes. -/
theorem count_eq {bb : Nat → Int} {K k : Nat} (h1 : ∀ j, K ≤ j → bb j = 0) (h2 : K = 0 ∨ bb (K - 1) ≠ 0) (h3 : ∀ j, k ≤ j → bb j = 0) (h4 : k = 0 ∨ bb (k - 1) ≠ 0) : K = k := by
  rcases Nat.lt_trichotomy K k with h | h | h
  · rcases h4 with h4 | h4
    · omega
    · exact absurd (h1 (k - 1) (by omega)) h4
  · exact h
  · rcases h2 with h2 | h2
    · omega
    · exact absurd (h3 (K - 1) (by omega)) h2

set_option maxRecDepth 100000 in
set_option maxHeartbeats 1600000 in
theorem law_bytes (z : Nat → Int) (n : Nat) (a : Option Addr) (c : Nat) (w : World) (h : Bytes z n (.slice a n c) w) :
    Calls Yba.prog 3 #[.slice a n c] w fun e w' => e = .returned (.bool true) ∧ Below w.heap.size w w' := by
  have hn := h.1
  have i1 : (n : Int) ≤ 4096 := by omega
  have HZ := hide h.2.1
  go_enter Yba.func3, Yba.ntmps3
  go_wp2_with fail
  refine (bclone_any z n a c w h).mono ?_
  rintro e w1 ⟨ao, co, rfl, ho, hb1⟩
  have h1 := h.keep hb1 (Nat.le_refl _)
  clear h
  go_wp2_with fail
  refine (le_any z n _ w1 h1).mono ?_
  rintro e w2 ⟨X, m, A, rfl, hX, x0, x1, hN, hb2⟩
  have h2 := h1.keep hb2 (Nat.le_refl _)
  have ho2 := ho.keep hb2 (Nat.le_refl _)
  have HB2 : Hid (Below w.heap.size w w2) := hb1.trans (hb2.mono hb1.size)
  clear h1 ho hb1 hb2
  go_wp2_with fail
  refine (Bytes_any X (cut z n) m A w2 (cut_bd HZ.out) hN x1).mono ?_
  rintro e w3 ⟨K, V3, rfl, hG, hb3⟩
  have h3 := h2.keep hb3 (Nat.le_refl _)
  have ho3 := ho2.keep hb3 (Nat.le_refl _)
  have HB3 : Hid (Below w.heap.size w w3) := HB2.out.trans (hb3.mono HB2.out.size)
  clear h2 ho2 hb3 x0 x1 hN HB2
  obtain ⟨ag, cg, rfl, hg⟩ := hG.form
  have HG := hide hg
  have HK := hide hG
  have hK := hG.1
  have HO := hide ho3.row
  clear hg hG
  go_wp2_with fail
  refine (equal_any _ _ (str z n) w3 h3.asText ho3.bytes.asText).mono ?_
  rintro e w4 ⟨rfl, rfl⟩
  clear h3 ho3
  go_wp2_with fail
  go_loop [5] (fun t => ∃ k : Nat, t = .int .i64 k ∧ k ≤ n ∧ Hid (∀ j, k ≤ j → cut z n j = 0)) (fun t => (intOf t).toNat)
  case atStart => exact ⟨n, rfl, Nat.le_refl _, fun j hj => cut_zero z n j hj⟩
  case round =>
    obtain ⟨k, rfl, hk, hz⟩ := hrel
    by_cases h0 : k = 0
    · subst h0
      obtain rfl : K = 0 := count_eq HK.out.2.1 HK.out.2.2.1 hz.out (.inl rfl)
      go_wp2_with fail
      refine wp_loop_rounds 1 ?_
      rw [rounds_succ]
      go_wp2
      go_ret
      exact ⟨rfl, HB3.out⟩
    · obtain ⟨q, rfl⟩ : ∃ q, k = q + 1 := ⟨k - 1, by omega⟩
      obtain ⟨g, rfl, hcell⟩ := HO.out (by omega)
      have HCe := hide hcell
      have cq := hcell q (by omega)
      have hcut : cut z n q = z q := by unfold cut; rw [if_pos (by omega)]
      clear hcell
      have j1 : (q : Int) < (n : Int) := by omega
      by_cases hv : z q = 0
      · rw [hv] at cq
        have HZ2 : Hid (∀ j, q ≤ j → cut z n j = 0) := fun j hj => by
          by_cases e : j = q
          · rw [e, hcut]; exact hv
          · exact hz.out j (by omega)
        clear hv hz hcut
        go_wp2
        go_round
        case rel => exact ⟨q, by go_num, by omega, HZ2⟩
        case measure => simp [intOf]
      · have hvb : (z q == 0) = false := by simp [hv]
        have hKq : K = q + 1 := count_eq HK.out.2.1 HK.out.2.2.1 hz.out (.inr (by simpa [hcut] using hv))
        obtain ⟨H, o, rfl, hgot⟩ := HG.out (by omega)
        have HGt := hide hgot
        subst hKq
        clear hgot hv hz hcut
        go_wp2_with fail
        go_loopw [6] (fun t wr => ∃ j : Nat, j ≤ q + 1 ∧ t = .int .i64 j ∧ ∃ d, wr = w3.drewN d) (fun t _ => q + 1 - (intOf t).toNat)
        case atStart => exact ⟨0, by omega, rfl, 0, rfl⟩
        case round =>
          obtain ⟨j, hj, rfl, d, rfl⟩ := hrel
          by_cases hlt : j < q + 1
          · obtain ⟨p, hp⟩ : ∃ p, p = q - j := ⟨_, rfl⟩
            have cg1 := HGt.out j hlt
            have e1 : cut z n (q + 1 - 1 - j) = z p := by unfold cut; rw [if_pos (by omega), hp]; congr 1
            rw [e1] at cg1
            have cg2 := HCe.out p (by omega)
            have HP := hide hp
            have j2 : (j : Int) < (q : Int) + 1 := by omega
            have j3 : (q : Int) - (j : Int) = (p : Int) := by omega
            have j4 : (p : Int) < (n : Int) := by omega
            clear e1 hp
            go_wp2_with fail
            go_quiet (fail)
            go_wp2
            go_roundw
            case rel => exact ⟨j + 1, by omega, by go_num, _, rfl⟩
            case measure => simp [intOf]; omega
          · go_wp2
            go_ret
            exact ⟨rfl, below_drewN HB3.out _⟩
end Go.Proofs.Ybulkacvm.Big
