import Derived.Test.YbulkacwoBuild
import Derived.WalkKit
import Derived.ProofKit
import Derived.OpenShut
import Derived.ShutString
import Derived.ChangeOld
import Derived.Below
namespace Go.Proofs.Ybulkacwo.lawS1444BSortedExact
open Go.ChangeShapes Go.WideShapes Go.ChangeAt Go.RowKit
open Go.ChangeMaps (open_string shut_string)
set_option linter.unusedVariables false

theorem own : ownKnob Yba.prog.godebug = none := by kernel_rfl
theorem laidOut : laidOutB Yba.prog = true := by kernel_rfl

/-- A slice of integers that came in. -/
def IsRow (k : IntKind) (w : World) (a : Option Addr) (len cap : Nat) (zs : List Int) : Prop :=
  (a = none ∧ len = 0 ∧ cap = 0 ∧ zs = []) ∨
  ∃ x, a = some x ∧ len ≤ cap ∧ cap ≤ maxLen ∧ zs.length = cap ∧ (∀ i, i < zs.length → w.cell? (x.add i) = some (.int k (zs.getD i 0))) ∧ ∀ n ∈ zs, (Lit.int k n).wf = true

/-! ### The walk -/
/-- A slice of bytes that came in: nil, or n bytes d at an address. -/
def Src (d : Nat → Int) (n : Nat) (a : Option Addr) (c : Nat) (w : World) : Prop :=
  n ≤ 1024 ∧ (∀ j, j < n → 0 ≤ d j ∧ d j ≤ 255) ∧ ((a = none ∧ n = 0 ∧ c = 0) ∨ ∃ ad, a = some ad ∧ ∀ j, j < n → w.cell? (ad.add j) = some (.int .u8 (d j)))

theorem build_any (b : Int) (d : Nat → Int) (n : Nat) (a : Option Addr) (c : Nat) (w : World) (hb : -128 ≤ b) (hb2 : b ≤ 127) (h : Src d n a c w) :
    Calls Yba.prog 11 #[.int .i8 b, .slice a n c] w fun e w' => ∃ p ca, e = .returned (.slice p n ca) ∧ Sets.Row (Sets.val b d) n p ca w' ∧ Below w.heap.size w w' := by
  obtain ⟨hn, hd, h3⟩ := h
  rcases h3 with ⟨rfl, rfl, rfl⟩ | ⟨ad, rfl, hc⟩
  · refine (Sets.build_nil b w).mono ?_
    rintro e w' ⟨rfl, rfl⟩
    exact ⟨none, 0, rfl, ⟨by omega, by omega, fun h => by omega⟩, Below.refl _ _⟩
  · refine (Sets.build_some b ad n c d w hb hb2 hn hd hc).mono ?_
    rintro e w' ⟨g, ca, rfl, h1, h2⟩
    exact ⟨_, ca, rfl, h1, h2⟩

theorem Src.keep {d : Nat → Int} {n : Nat} {a : Option Addr} {c : Nat} {w w' : World} (h : Src d n a c w) (hb : Below w.heap.size w w') : Src d n a c w' := by
  obtain ⟨h1, h2, h3⟩ := h
  refine ⟨h1, h2, ?_⟩
  rcases h3 with h3 | ⟨ad, e1, e2⟩
  · exact .inl h3
  · exact .inr ⟨ad, e1, fun j hj => (hb.cell (World.block_lt_of_cell? w _ (e2 j hj))).trans (e2 j hj)⟩
theorem row_keep {A : Nat → Int} {n : Nat} {p : Option Addr} {c : Nat} {w w' : World} (h : Sets.Row A n p c w) (hb : Below w.heap.size w w') : Sets.Row A n p c w' := by
  obtain ⟨h1, h2, h3⟩ := h
  refine ⟨h1, h2, fun hn => ?_⟩
  obtain ⟨g, e1, e2⟩ := h3 hn
  exact ⟨g, e1, fun i hi => (hb.cell (World.block_lt_of_cell? w _ (e2 i hi))).trans (e2 i hi)⟩
theorem row_drewN {A : Nat → Int} {n : Nat} {p : Option Addr} {c : Nat} {w : World} (h : Sets.Row A n p c w) (d : Nat) : Sets.Row A n p c (w.drewN d) := h

set_option maxRecDepth 100000 in
theorem walk_long1 (a0 a2 : Int) (a1 a3 : Option Addr) (n c1 m c3 : Nat) (w : World) (h : 1024 < n) (h2 : n ≤ 9223372036854775807) :
    Calls Yba.prog 4 #[.int .i8 a0, .slice a1 n c1, .int .i8 a2, .slice a3 m c3] w fun e w' => e = .returned (.bool true) ∧ Below w.heap.size w w' := by
  have i1 : (1024 : Int) < (n : Int) := by omega
  go_enter Yba.func4, Yba.ntmps4
  go_wp2
  go_ret
  exact ⟨rfl, Below.refl _ _⟩
set_option maxRecDepth 100000 in
theorem walk_long2 (a0 a2 : Int) (a1 a3 : Option Addr) (n c1 m c3 : Nat) (w : World) (h0 : n ≤ 1024) (h : 1024 < m) (h2 : m ≤ 9223372036854775807) :
    Calls Yba.prog 4 #[.int .i8 a0, .slice a1 n c1, .int .i8 a2, .slice a3 m c3] w fun e w' => e = .returned (.bool true) ∧ Below w.heap.size w w' := by
  have i0 : (n : Int) ≤ 1024 := by omega
  have i1 : (1024 : Int) < (m : Int) := by omega
  go_enter Yba.func4, Yba.ntmps4
  go_wp2
  go_ret
  exact ⟨rfl, Below.refl _ _⟩

set_option maxRecDepth 100000 in
set_option maxHeartbeats 400000 in
theorem walk_short (a0 a2 : Int) (d1 d3 : Nat → Int) (a1 a3 : Option Addr) (n c1 m c3 : Nat) (w : World) (hb : -128 ≤ a0) (hb2 : a0 ≤ 127) (hd : -128 ≤ a2) (hd2 : a2 ≤ 127) (s1 : Src d1 n a1 c1 w) (s3 : Src d3 m a3 c3 w) :
    Calls Yba.prog 4 #[.int .i8 a0, .slice a1 n c1, .int .i8 a2, .slice a3 m c3] w fun e w' => e = .returned (.bool true) ∧ Below w.heap.size w w' := by
  have i0 : (n : Int) ≤ 1024 := by have := s1.1; omega
  have i1 : (m : Int) ≤ 1024 := by have := s3.1; omega
  go_enter Yba.func4, Yba.ntmps4
  go_wp2_with fail
  refine (build_any a0 d1 n a1 c1 w hb hb2 s1).mono ?_
  rintro e w1 ⟨pa, ca, rfl, hA, hb1⟩
  have s3' := s3.keep hb1
  clear s1 s3
  go_wp2_with fail
  refine (build_any a2 d3 m a3 c3 w1 hd hd2 s3').mono ?_
  rintro e w2 ⟨pb, cb, rfl, hC, hb3⟩
  have hA2 := row_keep hA hb3
  have HB2 : Hid (Below w.heap.size w w2) := hb1.trans (hb3.mono hb1.size)
  clear s3' hA hb1 hb3
  go_wp2_with fail
  refine (Sets.share_any _ _ n m pa pb ca cb w2 hA2 hC (fun p q h _ => Sets.val_lt a0 d1 p q h) (fun p q h _ => Sets.val_lt a2 d3 p q h)).mono ?_
  rintro e w3 ⟨r, rfl, hr, d, rfl⟩
  have HR : Hid (r = true ↔ Sets.Meet (Sets.val a0 d1) (Sets.val a2 d3) n m) := hr
  clear hr
  go_wp2_with fail
  refine (Sets.common_any _ _ n m pa pb ca cb _ (row_drewN hA2 d) (row_drewN hC d)).mono ?_
  rintro e w4 ⟨r2, rfl, hr2, d2, rfl⟩
  have hrr : r = r2 := by
    have h := HR.out.trans hr2.symm
    cases r <;> cases r2 <;> simp_all
  clear hr2 HR
  subst hrr
  go_wp2
  go_ret
  exact ⟨by simp, below_drewN HB2.out _⟩

theorem src_of {a : Option Addr} {n c : Nat} {z : List Int} {w : World} (h : IsRow .u8 w a n c z) (hn : n ≤ 1024) : Src (fun j => z.getD j 0) n a c w := by
  rcases h with ⟨rfl, rfl, rfl, rfl⟩ | ⟨x, rfl, hl, hm, hz, hcell, hwz⟩
  · exact ⟨hn, fun j h => by omega, .inl ⟨rfl, rfl, rfl⟩⟩
  · refine ⟨hn, fun j hj => ?_, .inr ⟨x, rfl, fun j hj => hcell j (by omega)⟩⟩
    have hj2 : j < z.length := by omega
    have e : z.getD j 0 = z[j] := by simp [List.getD, hj2]
    show 0 ≤ z.getD j 0 ∧ z.getD j 0 ≤ 255
    rw [e]
    exact bounds_u8 (hwz _ (List.getElem_mem hj2))
theorem len_of {a : Option Addr} {n c : Nat} {z : List Int} {w : World} (h : IsRow .u8 w a n c z) : n ≤ 9223372036854775807 := by
  rcases h with ⟨rfl, rfl, rfl, rfl⟩ | ⟨x, rfl, hl, hm, _⟩
  · omega
  · unfold maxLen at hm; omega

theorem walk (a0 : Int) (a1 : Option Addr) (len1 cap1 : Nat) (z1 : List Int) (a2 : Int) (a3 : Option Addr) (len3 cap3 : Nat) (z3 : List Int) (w : World) (w0 : (Lit.int .i8 a0).wf = true) (w1 : IsRow .u8 w a1 len1 cap1 z1) (w2 : (Lit.int .i8 a2).wf = true) (w3 : IsRow .u8 w a3 len3 cap3 z3) :
    Calls Yba.prog 4 #[.int .i8 a0, .slice a1 len1 cap1, .int .i8 a2, .slice a3 len3 cap3] w fun e w' => e = .returned (.bool true) ∧ Below w.heap.size w w' := by
  by_cases h1 : 1024 < len1
  · exact walk_long1 a0 a2 a1 a3 len1 cap1 len3 cap3 w h1 (len_of w1)
  · by_cases h3 : 1024 < len3
    · exact walk_long2 a0 a2 a1 a3 len1 cap1 len3 cap3 w (by omega) h3 (len_of w3)
    · have b0 := bounds_i8 w0
      have b2 := bounds_i8 w2
      exact walk_short a0 a2 _ _ a1 a3 len1 cap1 len3 cap3 w b0.1 b0.2 b2.1 b2.2 (src_of w1 (by omega)) (src_of w3 (by omega))

/-! ### The row's step -/
set_option maxRecDepth 100000 in
theorem lifted (os : Os) (started : os.Started) (H : Type) (enc : TypeId × Value → H) :
    ReturnsInHanded {} Yba.checked os 4 .any (Rows.lawS1444BSortedExactSpec.pre6 enc Yba.prog Yba.f4 Rows.lawS1444BSortedExactRow.domain false) (Rows.lawS1444BSortedExactSpec.post enc Yba.prog Yba.f4 false true false false) := by
  refine returnsInHanded_of_change (C := Yba.checked) own started (by kernel_rfl) Yba.func4
    (ChangeSpec.witness6 (enc := enc) (C := Yba.checked) false ⟨#[], #[.int .i8 0, .slice none 0 0, .int .i8 0, .slice none 0 0], []⟩ 8 (by kernel_rfl) (by kernel_rfl) (by kernel_rfl) (by kernel_rfl)) ?_
  intro W base args ds gs before hval0 hW hcnd _
  have hval : ∀ (j : Nat) t v, Yba.f4.params[j]? = some t → args[j]? = some v → Value.okWide Yba.prog W .any base t v := hval0
  have hW' := hW
  obtain ⟨p, q, hA0, hV, rfl, hfz, hnd⟩ := hW
  have hA : DataW.TrodAll enc Yba.prog W 0 (fun _ => true) true Yba.f4.params.toList args.toList ds p := hA0
  rw [Yba.params4] at hA hval
  obtain ⟨v0, vs0, d0, ds0, p0, q0, hargs, rfl, rfl, h0, r0⟩ := trodAll_cons hA
  obtain ⟨v1, vs1, d1, ds1, p1, q1, rfl, rfl, rfl, h1, r1⟩ := trodAll_cons r0
  obtain ⟨v2, vs2, d2, ds2, p2, q2, rfl, rfl, rfl, h2, r2⟩ := trodAll_cons r1
  obtain ⟨v3, vs3, d3, ds3, p3, q3, rfl, rfl, rfl, h3, r3⟩ := trodAll_cons r2
  obtain ⟨rfl, rfl, rfl⟩ := trodAll_nil r3
  obtain rfl : args = #[v0, v1, v2, v3] := by cases args; simp_all
  obtain ⟨rfl, rfl⟩ := trodVars_none hV
  obtain ⟨a0, rfl, rfl, rfl, w0⟩ := open_int Yba.underlying43 (hval 0 43 v0 rfl rfl) h0
  obtain ⟨a1, len1, cap1, rfl⟩ := okWide_slice Yba.underlying44 (hval 1 44 v1 rfl rfl)
  have k1 := h1
  have lt1 : ∀ x ∈ p1, x.block < W.heap.size := by obtain ⟨m, hm⟩ := k1; exact DataW.trod_lt m _ _ _ hm
  obtain ⟨z1, w1⟩ : ∃ zs, IsRow .u8 W a1 len1 cap1 zs := by
    obtain ⟨fuel, hf⟩ := h1
    rcases open_ints Yba.underlying44 Yba.underlying5 (by kernel_rfl) hf with ⟨hcs, _⟩ | ⟨x, l, c, zs, hcs, _, hl, hm, hz, _, hcell, hwz⟩
    · simp [Value.cells] at hcs
      obtain ⟨rfl, rfl, rfl⟩ := hcs
      exact ⟨[], .inl ⟨rfl, rfl, rfl, rfl⟩⟩
    · simp [Value.cells] at hcs
      obtain ⟨rfl, rfl, rfl⟩ := hcs
      exact ⟨zs, .inr ⟨_, rfl, hl, hm, by simpa using hz, hcell, hwz⟩⟩
  obtain ⟨a2, rfl, rfl, rfl, w2⟩ := open_int Yba.underlying43 (hval 2 43 v2 rfl rfl) h2
  obtain ⟨a3, len3, cap3, rfl⟩ := okWide_slice Yba.underlying44 (hval 3 44 v3 rfl rfl)
  have k3 := h3
  have lt3 : ∀ x ∈ p3, x.block < W.heap.size := by obtain ⟨m, hm⟩ := k3; exact DataW.trod_lt m _ _ _ hm
  obtain ⟨z3, w3⟩ : ∃ zs, IsRow .u8 W a3 len3 cap3 zs := by
    obtain ⟨fuel, hf⟩ := h3
    rcases open_ints Yba.underlying44 Yba.underlying5 (by kernel_rfl) hf with ⟨hcs, _⟩ | ⟨x, l, c, zs, hcs, _, hl, hm, hz, _, hcell, hwz⟩
    · simp [Value.cells] at hcs
      obtain ⟨rfl, rfl, rfl⟩ := hcs
      exact ⟨[], .inl ⟨rfl, rfl, rfl, rfl⟩⟩
    · simp [Value.cells] at hcs
      obtain ⟨rfl, rfl, rfl⟩ := hcs
      exact ⟨zs, .inr ⟨_, rfl, hl, hm, by simpa using hz, hcell, hwz⟩⟩
  clear hA0 hval0
  refine (walk a0 a1 len1 cap1 z1 a2 a3 len3 cap3 z3 W w0 w1 w2 w3).mono fun e W' ⟨he, bel⟩ => ?_
  subst he
  exact ⟨_, rfl, _, _, _, [], _, [], hW', trodAll_mk1 (shut_bool Yba.underlying4 _), (trodAll_cons_mk (shut_int Yba.underlying43 w0) (trodAll_cons_mk (Below.trod laidOut (by kernel_rfl) (of_decide_eq_true (by kernel_rfl)) k1 bel lt1) (trodAll_cons_mk (shut_int Yba.underlying43 w2) (trodAll_cons_mk (Below.trod laidOut (by kernel_rfl) (of_decide_eq_true (by kernel_rfl)) k3 bel lt3) trodAll_mk0)))), rfl, bel.frame _, fun h => by cases h⟩

theorem over : Rows.lawS1444BSortedExactRow.holds Yba.pinned (OpenSpec.ofChange Rows.lawS1444BSortedExactSpec) :=
  OpenClaim.holds_of_wide 4 Yba.f4 rfl rfl rfl rfl rfl rfl rfl ⟨rfl, rfl, rfl, rfl, rfl⟩ rfl rfl rfl rfl rfl (by kernel_rfl) Yba.func4 (by kernel_rfl)
    (of_decide_eq_true (by kernel_rfl)) (by unfold Func.isWrapper; first | (rw [if_pos (by decide +kernel)]; kernel_rfl) | (rw [if_neg (by decide +kernel)]; exact ⟨rfl, rfl⟩))
    (fun os started H enc _ => lifted os started H enc)

/-- The statement. -/
theorem proved : Rows.LawS1444BSortedExactSaid := over
end Go.Proofs.Ybulkacwo.lawS1444BSortedExact
