import Derived.Test.YbulkacvmLawUint64
import Derived.WalkKit
import Derived.ProofKit
import Derived.OpenShut
import Derived.ShutString
import Derived.ChangeOld
import Derived.Below
namespace Go.Proofs.Ybulkacvm.lawS1442CUint64
open Go.ChangeShapes Go.WideShapes Go.ChangeAt Go.RowKit
set_option linter.unusedVariables false

theorem own : ownKnob Yba.prog.godebug = none := by kernel_rfl
theorem laidOut : laidOutB Yba.prog = true := by kernel_rfl
theorem cells29 : Yba.prog.cellsOf 29 = 8 := by kernel_rfl
theorem cells5 : Yba.prog.cellsOf 5 = 1 := by kernel_rfl

theorem array8 {α : Type} {cs : Array α} (h : cs.size = 8) : ∃ c0 c1 c2 c3 c4 c5 c6 c7, cs = #[c0, c1, c2, c3, c4, c5, c6, c7] := by
  obtain ⟨l⟩ := cs
  match l, h with
  | [c0, c1, c2, c3, c4, c5, c6, c7], _ => exact ⟨c0, c1, c2, c3, c4, c5, c6, c7, rfl⟩

theorem agg8 {W : World} {base : Nat} {v : Value} (h : Value.okWide Yba.prog W .any base 29 v) : ∃ c0 c1 c2 c3 c4 c5 c6 c7, v = .agg #[c0, c1, c2, c3, c4, c5, c6, c7] := by
  simp only [Value.okWide, Yba.underlying29] at h
  obtain ⟨cs, h1, h2, _⟩ := h
  obtain ⟨c0, c1, c2, c3, c4, c5, c6, c7, rfl⟩ := array8 (h2.trans cells29)
  exact ⟨c0, c1, c2, c3, c4, c5, c6, c7, h1⟩

theorem byte_of {H : Type} {enc : TypeId × Value → H} {w : World} {base : Nat} {spare : Nat → Bool} {held : Bool} {m : Nat} {c : Value} {x : Option (DataW H × List MemPlace)}
    (h : DataW.trod enc Yba.prog w base spare held m 5 [c] = x) (hx : x.isSome = true) : ∃ a : Int, c = .int .u8 a ∧ 0 ≤ a ∧ a ≤ 255 := by
  obtain ⟨d, rfl⟩ := Option.isSome_iff_exists.1 hx
  obtain ⟨a, e, _, wa⟩ := DataW.trod_int Yba.underlying5 h
  simp at e
  exact ⟨a, e, bounds_u8 wa⟩

theorem bytes8 {H : Type} {enc : TypeId × Value → H} {w : World} {base : Nat} {spare : Nat → Bool} {held : Bool} {c0 c1 c2 c3 c4 c5 c6 c7 : Value} {d : DataW H} {p : List MemPlace}
    (h : DataW.Trod enc Yba.prog w base spare held 29 (.agg #[c0, c1, c2, c3, c4, c5, c6, c7]) d p) : ∃ y : Nat → Int, Value.agg #[c0, c1, c2, c3, c4, c5, c6, c7] = .agg #[.int .u8 (y 0), .int .u8 (y 1), .int .u8 (y 2), .int .u8 (y 3), .int .u8 (y 4), .int .u8 (y 5), .int .u8 (y 6), .int .u8 (y 7)] ∧ ∀ t, 0 ≤ y t ∧ y t ≤ 255 := by
  obtain ⟨fuel, hf⟩ := h
  obtain ⟨xs, m, _, _, _, hl, hi⟩ := DataW.trod_array Yba.underlying29 hf
  rw [cells5] at hi
  simp only [Value.cells] at hi
  obtain ⟨a0, e0, b0⟩ := byte_of (c := c0) (by simpa using hi 0 (by omega)) (by simp [hl])
  obtain ⟨a1, e1, b1⟩ := byte_of (c := c1) (by simpa using hi 1 (by omega)) (by simp [hl])
  obtain ⟨a2, e2, b2⟩ := byte_of (c := c2) (by simpa using hi 2 (by omega)) (by simp [hl])
  obtain ⟨a3, e3, b3⟩ := byte_of (c := c3) (by simpa using hi 3 (by omega)) (by simp [hl])
  obtain ⟨a4, e4, b4⟩ := byte_of (c := c4) (by simpa using hi 4 (by omega)) (by simp [hl])
  obtain ⟨a5, e5, b5⟩ := byte_of (c := c5) (by simpa using hi 5 (by omega)) (by simp [hl])
  obtain ⟨a6, e6, b6⟩ := byte_of (c := c6) (by simpa using hi 6 (by omega)) (by simp [hl])
  obtain ⟨a7, e7, b7⟩ := byte_of (c := c7) (by simpa using hi 7 (by omega)) (by simp [hl])
  subst e0 e1 e2 e3 e4 e5 e6 e7
  refine ⟨fun t => if t = 0 then a0 else if t = 1 then a1 else if t = 2 then a2 else if t = 3 then a3 else if t = 4 then a4 else if t = 5 then a5 else if t = 6 then a6 else if t = 7 then a7 else 0, rfl, fun t => ?_⟩
  dsimp only
  repeat' split
  all_goals omega

set_option maxRecDepth 100000 in
theorem lifted (os : Os) (started : os.Started) (H : Type) (enc : TypeId × Value → H) :
    ReturnsInHanded {} Yba.checked os 4 .any (Rows.lawS1442CUint64Spec.pre6 enc Yba.prog Yba.f4 Rows.lawS1442CUint64Row.domain false) (Rows.lawS1442CUint64Spec.post enc Yba.prog Yba.f4 false true false false) := by
  refine returnsInHanded_of_change (C := Yba.checked) own started (by kernel_rfl) Yba.func4
    (ChangeSpec.witness6 (enc := enc) (C := Yba.checked) false ⟨#[], #[.agg #[.int .u8 0, .int .u8 0, .int .u8 0, .int .u8 0, .int .u8 0, .int .u8 0, .int .u8 0, .int .u8 0]], []⟩ 8 (by kernel_rfl) (by kernel_rfl) (by kernel_rfl) (by kernel_rfl)) ?_
  intro W base args ds gs before hval0 hW hcnd _
  have hval : ∀ (j : Nat) t v, Yba.f4.params[j]? = some t → args[j]? = some v → Value.okWide Yba.prog W .any base t v := hval0
  have hW' := hW
  obtain ⟨p, q, hA0, hV, rfl, hfz, hnd⟩ := hW
  have hA : DataW.TrodAll enc Yba.prog W 0 (fun _ => true) true Yba.f4.params.toList args.toList ds p := hA0
  rw [Yba.params4] at hA hval
  obtain ⟨v0, vs0, d0, ds0, p0, q0, hargs, rfl, rfl, h0, r0⟩ := trodAll_cons hA
  obtain ⟨rfl, rfl, rfl⟩ := trodAll_nil r0
  obtain rfl : args = #[v0] := by cases args; simp_all
  obtain ⟨rfl, rfl⟩ := trodVars_none hV
  have k0 := h0
  have lt0 : ∀ x ∈ p0, x.block < W.heap.size := by obtain ⟨m, hm⟩ := k0; exact DataW.trod_lt m _ _ _ hm
  obtain ⟨y, hv, hy⟩ : ∃ y : Nat → Int, v0 = .agg #[.int .u8 (y 0), .int .u8 (y 1), .int .u8 (y 2), .int .u8 (y 3), .int .u8 (y 4), .int .u8 (y 5), .int .u8 (y 6), .int .u8 (y 7)] ∧ ∀ t, 0 ≤ y t ∧ y t ≤ 255 := by
    obtain ⟨c0, c1, c2, c3, c4, c5, c6, c7, rfl⟩ := agg8 (hval 0 29 v0 rfl rfl)
    exact bytes8 h0
  subst hv
  clear hA0 hval0
  refine (Big.law_u64 y W hy).mono fun e W' ⟨he, bel⟩ => ?_
  subst he
  exact ⟨_, rfl, _, _, _, [], _, [], hW', trodAll_mk1 (shut_bool Yba.underlying4 _), (trodAll_cons_mk (Below.trod laidOut (by kernel_rfl) (of_decide_eq_true (by kernel_rfl)) k0 bel lt0) trodAll_mk0), rfl, bel.frame _, fun h => by cases h⟩

theorem over : Rows.lawS1442CUint64Row.holds Yba.pinned (OpenSpec.ofChange Rows.lawS1442CUint64Spec) :=
  OpenClaim.holds_of_wide 4 Yba.f4 rfl rfl rfl rfl rfl rfl rfl ⟨rfl, rfl, rfl, rfl, rfl⟩ rfl rfl rfl rfl rfl (by kernel_rfl) Yba.func4 (by kernel_rfl)
    (of_decide_eq_true (by kernel_rfl)) (by unfold Func.isWrapper; first | (rw [if_pos (by decide +kernel)]; kernel_rfl) | (rw [if_neg (by decide +kernel)]; exact ⟨rfl, rfl⟩))
    (fun os started H enc _ => lifted os started H enc)

/-- The statement. -/
theorem proved : Rows.LawS1442CUint64Said := over
end Go.Proofs.Ybulkacvm.lawS1442CUint64
