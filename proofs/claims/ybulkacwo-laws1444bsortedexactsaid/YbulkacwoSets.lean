import Derived.Test.YbulkacwoRows
import Derived.WalkKit
import Derived.WalkSpells
import Derived.WalkLawsBesides
import Derived.BigQuiet
import Derived.Deep.QuietTactic
import Derived.Handy
namespace Go.Proofs.Ybulkacwo.Sets
open Go.RowKit

theorem hide {p : Prop} (h : p) : Hid p := h

/-- n numbers A behind a slice. -/
def Row (A : Nat → Int) (n : Nat) (p : Option Addr) (c : Nat) (w : World) : Prop :=
  n ≤ 1024 ∧ n ≤ c ∧ (0 < n → ∃ g, p = some ⟨g, 0, none⟩ ∧ ∀ i, i < n → w.cell? ⟨g, i, none⟩ = some (.int .i64 (A i)))

/-- Some number is in both. -/
def Meet (A C : Nat → Int) (n m : Nat) : Prop := ∃ p q, p < n ∧ q < m ∧ A p = C q

def lenOf : Value → Nat
  | .slice _ l _ => l
  | _ => 0

theorem row_g {A : Nat → Int} {n : Nat} {p : Option Addr} {c : Nat} {w : World} (h : Row A n p c w) : ∃ g, (0 < n → p = some ⟨g, 0, none⟩) ∧ ∀ i, i < n → w.cell? ⟨g, i, none⟩ = some (.int .i64 (A i)) := by
  by_cases hn : 0 < n
  · obtain ⟨g, h1, h2⟩ := h.2.2 hn
    exact ⟨g, fun _ => h1, h2⟩
  · exact ⟨0, fun h => absurd h hn, fun i hi => by omega⟩

theorem drew3 (w : World) (a b c : Nat) : ∃ d, ((w.drewN a).drewN b).drewN c = w.drewN d := ⟨a + b + c, by simp [Nat.add_assoc]⟩

def Inv (A C : Nat → Int) (n m i j : Nat) : Prop := ∀ p q, p < n → q < m → A p = C q → i ≤ p ∧ j ≤ q

theorem inv_left {A C : Nat → Int} {n m i j : Nat} (h : Inv A C n m i j) (sC : ∀ p q, p < q → q < m → C p < C q) (hlt : A i < C j) : Inv A C n m (i + 1) j := by
  intro p q hp hq e
  have h1 := h p q hp hq e
  refine ⟨?_, h1.2⟩
  by_cases hpi : p = i
  · subst hpi
    by_cases hqj : q = j
    · subst hqj; omega
    · have := sC j q (by omega) hq; omega
  · omega
theorem inv_right {A C : Nat → Int} {n m i j : Nat} (h : Inv A C n m i j) (sA : ∀ p q, p < q → q < n → A p < A q) (hlt : C j < A i) : Inv A C n m i (j + 1) := by
  intro p q hp hq e
  have h1 := h p q hp hq e
  refine ⟨h1.1, ?_⟩
  by_cases hqj : q = j
  · subst hqj
    by_cases hpi : p = i
    · subst hpi; omega
    · have := sA i p (by omega) hp; omega
  · omega

set_option maxRecDepth 100000 in
set_option maxHeartbeats 1600000 in
theorem share_any (A C : Nat → Int) (n m : Nat) (pa pb : Option Addr) (ca cb : Nat) (w : World) (hA : Row A n pa ca w) (hC : Row C m pb cb w)
    (sA : ∀ p q, p < q → q < n → A p < A q) (sC : ∀ p q, p < q → q < m → C p < C q) :
    Calls Yba.prog 12 #[.slice pa n ca, .slice pb m cb] w fun e w' => ∃ r, e = .returned (.bool r) ∧ (r = true ↔ Meet A C n m) ∧ ∃ d, w' = w.drewN d := by
  obtain ⟨g, hg, cA⟩ := row_g hA
  obtain ⟨h, hh, cC⟩ := row_g hC
  have HG := hide hg
  have HH := hide hh
  have HCA := hide cA
  have HCC := hide cC
  have HSA := hide sA
  have HSC := hide sC
  have hn := hA.1
  have hm := hC.1
  have hca := hA.2.1
  have hcb := hC.2.1
  clear hg hh cA cC hA hC sA sC
  go_enter Yba.func12, Yba.ntmps12
  go_wp2_with fail
  go_loopw [0, 1] (fun a b wr => ∃ (i j la lb : Nat) (qa qb : Option Addr) (xa xb : Nat), a = .slice qa la xa ∧ b = .slice qb lb xb ∧ i + la = n ∧ j + lb = m ∧ la ≤ xa ∧ lb ≤ xb ∧ Hid (0 < la → qa = some ⟨g, i, none⟩) ∧ Hid (0 < lb → qb = some ⟨h, j, none⟩) ∧ Hid (Inv A C n m i j) ∧ ∃ d, wr = w.drewN d) (fun a b _ => lenOf a + lenOf b)
  case atStart => exact ⟨0, 0, n, m, pa, pb, ca, cb, rfl, rfl, by omega, by omega, hca, hcb, HG, HH, fun p q _ _ _ => ⟨by omega, by omega⟩, 0, rfl⟩
  case round =>
    obtain ⟨i, j, la, lb, qa, qb, xa, xb, rfl, rfl, ei, ej, ha, hb, h1, h2, hi, d, rfl⟩ := hrel
    have HEI := hide ei
    have HEJ := hide ej
    have hla : la ≤ 1024 := by omega
    have hlb : lb ≤ 1024 := by omega
    by_cases ha0 : la = 0
    · subst ha0
      clear ei ej
      go_wp2
      go_ret
      refine ⟨false, rfl, ⟨fun h => (by cases h), fun ⟨p, q, hp, hq, e⟩ => ?_⟩, _, rfl⟩
      have := hi.out p q hp hq e; have := HEI.out; omega
    · by_cases hb0 : lb = 0
      · subst hb0
        have hlp : 0 < la := by omega
        clear ei ej
        go_wp2
        go_ret
        refine ⟨false, rfl, ⟨fun h => (by cases h), fun ⟨p, q, hp, hq, e⟩ => ?_⟩, _, rfl⟩
        have := hi.out p q hp hq e; have := HEJ.out; omega
      · obtain ⟨la', rfl⟩ : ∃ x, la = x + 1 := ⟨la - 1, by omega⟩
        obtain ⟨lb', rfl⟩ : ∃ x, lb = x + 1 := ⟨lb - 1, by omega⟩
        obtain rfl := h1.out (by omega)
        obtain rfl := h2.out (by omega)
        have c1 := HCA.out i (by omega)
        have c2 := HCC.out j (by omega)
        clear ei ej h1 h2 ha0 hb0
        by_cases hlt : A i < C j
        · go_wp2_with fail
          go_quiet (fail)
          go_wp2_with fail
          go_roundw
          case rel =>
            exact ⟨i + 1, j, la', lb' + 1, _, _, _, _, rfl, rfl, by have := HEI.out; omega, HEJ.out, by omega, hb, fun h => if_neg (by omega), fun _ => rfl, inv_left hi.out HSC.out hlt, _, rfl⟩
          case measure => simp [lenOf]
        · by_cases hgt : C j < A i
          · go_wp2_with fail
            go_quiet (fail)
            go_wp2_with fail
            go_quiet (fail)
            go_wp2_with fail
            go_roundw
            case rel =>
              exact ⟨i, j + 1, la' + 1, lb', _, _, _, _, rfl, rfl, HEI.out, by have := HEJ.out; omega, ha, by omega, fun _ => rfl, fun h => if_neg (by omega), inv_right hi.out HSA.out hgt, _, rfl⟩
            case measure => simp [lenOf]
          · have heq : A i = C j := by omega
            have HQ := hide heq
            clear heq
            go_wp2_with fail
            go_quiet (fail)
            go_wp2_with fail
            go_quiet (fail)
            go_wp2_with fail
            go_ret
            exact ⟨true, rfl, ⟨fun _ => ⟨i, j, by have := HEI.out; omega, by have := HEJ.out; omega, HQ.out⟩, fun _ => rfl⟩, drew3 _ _ _ _⟩
end Go.Proofs.Ybulkacwo.Sets
