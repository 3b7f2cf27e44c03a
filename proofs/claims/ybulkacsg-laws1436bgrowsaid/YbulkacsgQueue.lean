import Derived.Test.YbulkacsgRows
import Derived.WalkKit
import Derived.WalkSpells
import Derived.WalkLawsBesides
import Derived.Laws.CopyOwn
import Derived.Deep.OwnRows
import Derived.Deep.RegionHeld3
import Derived.Deep.DrawnRows
import Derived.BigRegion
import Derived.BigQuiet
import Derived.Deep.QuietTactic
import Derived.Handy
namespace Go.Proofs.Ybulkacsg.Queue
open Go.RowKit

theorem info3 : (Yba.prog.info? 3).map (fun i => (i.zero, i.size, i.bytes)) = some (some (.int .i64 0), 1, 8) := by kernel_rfl
theorem size3 : (Yba.prog.info? 3).map (·.size) = some 1 := by kernel_rfl
attribute [local go_sem ↓] Go.wp_at_zero Go.wp_at_succ

/-- Of what was there nothing has turned but block Q. -/
structure But (Q : Nat) (w w' : World) : Prop where
  os : w'.os = w.os
  tape : w'.tape = w.tape
  output : w'.output = w.output
  size : w.heap.size ≤ w'.heap.size
  block : ∀ k, k < w.heap.size → k ≠ Q → w'.heap[k]? = w.heap[k]?

theorem But.below {Q B : Nat} {w w' : World} (h : But Q w w') (hB : B ≤ Q) (hQ : Q < w.heap.size) : Below B w w' :=
  ⟨h.os, h.tape, h.output, h.size, fun k hk => h.block k (by omega) (by omega)⟩
theorem But.trans {Q : Nat} {a b c : World} (h : But Q a b) (k : But Q b c) : But Q a c :=
  ⟨k.os.trans h.os, k.tape.trans h.tape, k.output.trans h.output, Nat.le_trans h.size k.size, fun i hi hq => (k.block i (Nat.lt_of_lt_of_le hi h.size) hq).trans (h.block i hi hq)⟩

theorem heap_set (w : World) (Q j : Nat) (v : Value) (c : Array Value) (t : TypeId) (h : w.heap[Q]? = some (.cells c t (0, 0))) :
    (w.setCell ⟨Q, j, none⟩ v).heap[Q]? = some (.cells (c.setIfInBounds j v) t (0, 0)) := by
  simp [World.setCell, Array.getElem?_modify, h]

theorem fin {Q S N : Nat} {a : Value} {w w2 : World} {row : Array Value} (hQs : Q < w.heap.size)
    (hQ : w.heap[Q]? = some (.cells #[a, .int .i64 0, .int .i64 N] 71 (0, 0)))
    (hg : w2.heap[w.heap.size]? = some (.cells row 3 (0, 0))) (hb : Below w.heap.size w w2) :
    ((w2.setCell ⟨Q, 0, none⟩ (.slice (some ⟨w.heap.size, 0, none⟩) S S)).setCell ⟨Q, 1, none⟩ (.int .i64 0)).heap[Q]? = some (.cells #[.slice (some ⟨w.heap.size, 0, none⟩) S S, .int .i64 0, .int .i64 N] 71 (0, 0)) ∧
    ((w2.setCell ⟨Q, 0, none⟩ (.slice (some ⟨w.heap.size, 0, none⟩) S S)).setCell ⟨Q, 1, none⟩ (.int .i64 0)).heap[w.heap.size]? = some (.cells row 3 (0, 0)) ∧
    But Q w ((w2.setCell ⟨Q, 0, none⟩ (.slice (some ⟨w.heap.size, 0, none⟩) S S)).setCell ⟨Q, 1, none⟩ (.int .i64 0)) := by
  have h2 : w2.heap[Q]? = some (.cells #[a, .int .i64 0, .int .i64 N] 71 (0, 0)) := (hb.block Q hQs).trans hQ
  refine ⟨?_, ?_, ⟨hb.os, hb.tape, hb.output, ?_, ?_⟩⟩
  · rw [heap_set _ _ _ _ _ _ (heap_set _ _ _ _ _ _ h2)]; rfl
  · rw [Below.heap_setCell _ _ _ _ (by simp; omega), Below.heap_setCell _ _ _ _ (by simp; omega)]; exact hg
  · have := hb.size; simp [World.setCell]; exact this
  · intro k hk hq
    rw [Below.heap_setCell _ _ _ _ (by simpa using hq), Below.heap_setCell _ _ _ _ (by simpa using hq)]; exact hb.block k hk

def zeros (S : Nat) : List Value := (madeCells #[.int .i64 0] S).toList
theorem zeros_length (S : Nat) : (zeros S).length = S := by simp [zeros, size_madeCells]

theorem hide {p : Prop} (h : p) : Hid p := h
theorem unhide {p : Prop} (h : Hid p) : p := h

theorem cellsQ {w : World} {Q : Nat} {c0 c1 c2 : Value} (h : w.heap[Q]? = some (.cells #[c0, c1, c2] 71 (0, 0))) :
    w.cell? ⟨Q, 0, none⟩ = some c0 ∧ w.cell? ⟨Q, 1, none⟩ = some c1 ∧ w.cell? ⟨Q, 2, none⟩ = some c2 ∧
    w.frozen? ⟨Q, 0, none⟩ = false ∧ w.frozen? ⟨Q, 1, none⟩ = false ∧ w.frozen? ⟨Q, 2, none⟩ = false := by
  refine ⟨?_, ?_, ?_, ?_, ?_, ?_⟩ <;> simp [World.cell?, World.frozen?, h]

set_option maxRecDepth 100000 in
set_option maxHeartbeats 1600000 in
theorem resize_some (Q N S : Nat) (ad : Addr) (xs : List Value) (w : World)
    (hS : N < S) (hS2 : S ≤ 4096) (hxs : xs.length = N) (h1 : ∀ v ∈ xs, v.oneCell' = true) (hQs : Q < w.heap.size)
    (hQ : w.heap[Q]? = some (.cells #[.slice (some ad) N N, .int .i64 0, .int .i64 N] 71 (0, 0)))
    (ha : ∀ j v, xs[j]? = some v → w.cell? (ad.add j) = some v) :
    Calls Yba.prog 30 #[.pointer (some ⟨Q, 0, none⟩), .int .i64 S] w fun e w' => e = .returned (.tuple #[]) ∧
      w'.heap[Q]? = some (.cells #[.slice (some ⟨w.heap.size, 0, none⟩) S S, .int .i64 0, .int .i64 N] 71 (0, 0)) ∧
      w'.heap[w.heap.size]? = some (.cells (splice (zeros S) 0 xs).toArray 3 (0, 0)) ∧ But Q w w' := by
  have hmk := fun wx => run_make_row' (P := Yba.prog) 68 3 (.int .i64 0) 8 Yba.underlying68 info3 rfl .i64 .i64 S (by omega) (by omega) wx
  obtain ⟨q0, q1, q2, f0, f1, f2⟩ := cellsQ hQ
  have HQ := hide hQ
  have i1 : (0 : Int) ≤ (N : Int) := by omega
  have i2 : (N : Int) ≤ (S : Int) := by omega
  have i3 : (S : Int) ≤ 4096 := by omega
  have hne : ¬ S = N := by omega
  have hwr : IntKind.i64.wrap (N : Int) = N := by rw [IntKind.wrap_i64]; omega
  go_enter Yba.func30, Yba.ntmps30
  go_wp2_with fail
  clear hmk
  have b0 : Below w.heap.size w (w.alloc (.cells (madeCells #[.int .i64 0] S) 3)) := (Below.refl _ _).alloc (Nat.le_refl _) _
  have g0 : (w.alloc (.cells (madeCells #[.int .i64 0] S) 3)).heap[w.heap.size]? = some (.cells (zeros S).toArray 3 (0, 0)) := by
    rw [heap_alloc_new]; simp [zeros]
  have k0 := (b0.cell (p := ⟨Q, 0, none⟩) hQs).trans q0
  have k1 := (b0.cell (p := ⟨Q, 1, none⟩) hQs).trans q1
  have k2 := (b0.cell (p := ⟨Q, 2, none⟩) hQs).trans q2
  have hsrc : ∀ j v, xs[j]? = some v → (w.alloc (.cells (madeCells #[.int .i64 0] S) 3)).cell? (ad.add j) = some v := by
    intro j v hj
    have hx := ha j v hj
    exact (b0.cell (p := ad.add j) (World.block_lt_of_cell? w _ hx)).trans hx
  clear q0 q1 q2 hQ ha
  generalize (w.alloc (.cells (madeCells #[.int .i64 0] S) 3)) = w1 at *
  have HG : Hid (w1.heap[w.heap.size]? = some (.cells (zeros S).toArray 3 (0, 0))) := g0
  have HS : Hid (∀ j v, xs[j]? = some v → w1.cell? (ad.add j) = some v) := hsrc
  clear g0 hsrc
  have HN : Hid (xs.length = Nat.min N S) := by show _ = _; rw [hxs]; exact (Nat.min_eq_left (by omega)).symm
  have HP : Hid (0 < xs.length → (some ⟨w.heap.size, 0, none⟩ : Option Addr) = some ⟨w.heap.size, 0, none⟩ ∧ ∃ ad', some ad = some ad' ∧ ∀ j v, xs[j]? = some v → w1.drew.cell? (ad'.add j) = some v) := fun _ => ⟨rfl, ad, rfl, HS.out⟩
  have HF : Hid (0 + xs.length ≤ (zeros S).length) := by show _ ≤ _; rw [zeros_length, hxs]; omega
  have H1 : Hid (∀ v ∈ xs, v.oneCell' = true) := h1
  have HB : Hid (Below w.heap.size w1 w1.drew) := (Below.refl _ _).drew
  clear h1 HS
  go_region_held3 (fun w' => w'.cell? ⟨Q, 0, none⟩ = some (.slice (some ad) N N) ∧ w'.cell? ⟨Q, 1, none⟩ = some (.int .i64 0) ∧ w'.cell? ⟨Q, 2, none⟩ = some (.int .i64 N))
    (first
      | go_keep
      | (refine ⟨?_, ?_, ?_⟩
         · (rw [b2.cell (by exact hQs)]; assumption)
         · (rw [b2.cell (by exact hQs)]; assumption)
         · (rw [b2.cell (by exact hQs)]; assumption)))
    ((first | (refine step_copy_splice (by rfl) (.tmp 8) (.tmp 32) 68 68 (by rfl) 3 Yba.underlying68 size3 (some ⟨w.heap.size, 0, none⟩) (some ad) S S N N (by rfl) (by rfl) w.heap.size 0 (zeros S) 3 HG.out xs HN.out HP.out HF.out H1.out w.heap.size w1 HB.out (Nat.le_refl _) ?_; intro w2 HG2 b2) | fail))
  have m0 := (b2.cell (p := ⟨Q, 0, none⟩) hQs).trans k0
  have m1 := (b2.cell (p := ⟨Q, 1, none⟩) hQs).trans k1
  have m2 := (b2.cell (p := ⟨Q, 2, none⟩) hQs).trans k2
  have HB0 : Hid (Below w.heap.size w w2) := b0.trans b2
  clear k0 k1 k2 b0 b2 HB HG HP
  have HN3 : Hid (([] : List Value).length = Nat.min N 0) := by show _ = _; simp
  have HP3 : Hid (0 < ([] : List Value).length → (some ⟨w.heap.size, N, none⟩ : Option Addr) = some ⟨w.heap.size, 0, none⟩ ∧ ∃ ad', some ad = some ad' ∧ ∀ j v, ([] : List Value)[j]? = some v → w2.drew.cell? (ad'.add j) = some v) := fun h => by simp at h
  have HF3 : Hid (0 + ([] : List Value).length ≤ (splice (zeros S) 0 xs).length) := by show _ ≤ _; simp
  have H3 : Hid (∀ v ∈ ([] : List Value), v.oneCell' = true) := by intro v hv; simp at hv
  have HB3 : Hid (Below w.heap.size w2 w2.drew) := (Below.refl _ _).drew
  go_wp2_with fail
  go_region_held3 (fun w' => w'.cell? ⟨Q, 0, none⟩ = some (.slice (some ad) N N) ∧ w'.cell? ⟨Q, 2, none⟩ = some (.int .i64 N))
    (first
      | go_keep
      | (refine ⟨?_, ?_⟩
         · (rw [b3.cell (by exact hQs)]; assumption)
         · (rw [b3.cell (by exact hQs)]; assumption)))
    ((first | (refine step_copy_splice (by rfl) (.tmp 40) (.tmp 44) 68 68 (by rfl) 3 Yba.underlying68 size3 (some ⟨w.heap.size, N, none⟩) (some ad) 0 (S - N) N N (by rfl) (by rfl) w.heap.size 0 (splice (zeros S) 0 xs) 3 HG2.out [] HN3.out HP3.out HF3.out H3.out w.heap.size w2 HB3.out (Nat.le_refl _) ?_; intro w3 HG3 b3) | fail))
  have n0 := (b3.cell (p := ⟨Q, 0, none⟩) hQs).trans m0
  have n1 := (b3.cell (p := ⟨Q, 1, none⟩) hQs).trans m1
  have HB4 : Hid (Below w.heap.size w w3) := HB0.out.trans b3
  have f0' := (HB4.out.frozen (p := ⟨Q, 0, none⟩) hQs).trans f0
  have f1' := (HB4.out.frozen (p := ⟨Q, 1, none⟩) hQs).trans f1
  clear m0 m1 m2 HB0 b3 f0 f1 f2
  go_wp2
  go_end0
  have hg3 : w3.heap[w.heap.size]? = some (.cells (splice (zeros S) 0 xs).toArray 3 (0, 0)) := by simpa [splice] using HG3.out
  exact ⟨rfl, fin hQs (unhide HQ) hg3 HB4.out⟩

set_option maxRecDepth 100000 in
set_option maxHeartbeats 1600000 in
theorem resize_none (Q S : Nat) (w : World)
    (hS : 0 < S) (hS2 : S ≤ 4096) (hQs : Q < w.heap.size)
    (hQ : w.heap[Q]? = some (.cells #[.slice none 0 0, .int .i64 0, .int .i64 0] 71 (0, 0))) :
    Calls Yba.prog 30 #[.pointer (some ⟨Q, 0, none⟩), .int .i64 S] w fun e w' => e = .returned (.tuple #[]) ∧
      w'.heap[Q]? = some (.cells #[.slice (some ⟨w.heap.size, 0, none⟩) S S, .int .i64 0, .int .i64 0] 71 (0, 0)) ∧
      w'.heap[w.heap.size]? = some (.cells (zeros S).toArray 3 (0, 0)) ∧ But Q w w' := by
  have hmk := fun wx => run_make_row' (P := Yba.prog) 68 3 (.int .i64 0) 8 Yba.underlying68 info3 rfl .i64 .i64 S (by omega) (by omega) wx
  obtain ⟨q0, q1, q2, f0, f1, f2⟩ := cellsQ hQ
  have HQ := hide hQ
  have i2 : (0 : Int) ≤ (S : Int) := by omega
  have i3 : (S : Int) ≤ 4096 := by omega
  have hne : ¬ S = 0 := by omega
  have hsl : ∀ wx, (Instr.slice 68 (.slice none 0 0) (some (.int .i64 0)) (some (.int .i64 0)) none).run Yba.prog wx = .ok (.slice none 0 0) wx := fun _ => by kernel_rfl
  go_enter Yba.func30, Yba.ntmps30
  go_wp2_with fail
  clear hmk
  have b0 : Below w.heap.size w (w.alloc (.cells (madeCells #[.int .i64 0] S) 3)) := (Below.refl _ _).alloc (Nat.le_refl _) _
  have g0 : (w.alloc (.cells (madeCells #[.int .i64 0] S) 3)).heap[w.heap.size]? = some (.cells (zeros S).toArray 3 (0, 0)) := by
    rw [heap_alloc_new]; simp [zeros]
  have k0 := (b0.cell (p := ⟨Q, 0, none⟩) hQs).trans q0
  have k1 := (b0.cell (p := ⟨Q, 1, none⟩) hQs).trans q1
  have k2 := (b0.cell (p := ⟨Q, 2, none⟩) hQs).trans q2
  clear q0 q1 q2 hQ
  generalize (w.alloc (.cells (madeCells #[.int .i64 0] S) 3)) = w1 at *
  have HG : Hid (w1.heap[w.heap.size]? = some (.cells (zeros S).toArray 3 (0, 0))) := g0
  clear g0
  have hc1 : ∀ wx, (Builtin.copy_ #[68, 68] 3 #[.slice (some ⟨w.heap.size, 0, none⟩) S S, .slice none 0 0]).run Yba.prog wx = .ok (goInt 0) wx :=
    fun wx => run_copy_none (P := Yba.prog) wx 68 68 3 3 _ _ S S 0 0 Yba.underlying68 size3 (by simp)
  have hc2 : ∀ wx, (Builtin.copy_ #[68, 68] 3 #[.slice (some ⟨w.heap.size, 0, none⟩) 0 S, .slice none 0 0]).run Yba.prog wx = .ok (goInt 0) wx :=
    fun wx => run_copy_none (P := Yba.prog) wx 68 68 3 3 _ _ 0 S 0 0 Yba.underlying68 size3 (by simp)
  have f0' := (b0.frozen (p := ⟨Q, 0, none⟩) hQs).trans f0
  have f1' := (b0.frozen (p := ⟨Q, 1, none⟩) hQs).trans f1
  have HB4 : Hid (Below w.heap.size w w1) := b0
  clear f0 f1 f2 b0
  go_quiet (fail)
  go_wp2_with fail
  go_quiet (fail)
  go_wp2
  go_end0
  exact ⟨rfl, fin (N := 0) hQs (unhide HQ) HG.out (below_drewN HB4.out _)⟩
end Go.Proofs.Ybulkacsg.Queue
