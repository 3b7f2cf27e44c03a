import Derived.Test.YbulkacsgQueue
namespace Go.Proofs.Ybulkacsg.Queue
open Go.RowKit
attribute [local go_sem ↓] Go.wp_at_zero Go.wp_at_succ

theorem cellG {w : World} {g n : Nat} {row : List Value} {t : TypeId} (h : w.heap[g]? = some (.cells row.toArray t (0, 0))) (hn : n < row.length) :
    (∃ v, w.cell? ⟨g, n, none⟩ = some v) ∧ w.frozen? ⟨g, n, none⟩ = false := by
  refine ⟨⟨row[n], ?_⟩, ?_⟩ <;> simp [World.cell?, World.frozen?, h, hn]

/-- The queue's header lies in block Q, its ring in block g: 'row' (N cells), n tasks, head 0. -/
structure At (B Q g N n : Nat) (row : List Value) (w : World) : Prop where
  bQ : B ≤ Q
  lQ : Q < w.heap.size
  bg : B ≤ g
  ne : g ≠ Q
  len : row.length = N
  hQ : w.heap[Q]? = some (.cells #[.slice (some ⟨g, 0, none⟩) N N, .int .i64 0, .int .i64 n] 71 (0, 0))
  hg : w.heap[g]? = some (.cells row.toArray 3 (0, 0))

theorem At.drewN {B Q g N n : Nat} {row : List Value} {w : World} (h : At B Q g N n row w) (d : Nat) : At B Q g N n row (w.drewN d) :=
  ⟨h.bQ, h.lQ, h.bg, h.ne, h.len, h.hQ, h.hg⟩

theorem At.pushed {B Q g N n : Nat} {row : List Value} {w : World} (h : At B Q g N n row w) (x : Int) :
    At B Q g N (n + 1) (row.set n (.int .i64 x)) ((w.setCell ⟨g, n, none⟩ (.int .i64 x)).setCell ⟨Q, 2, none⟩ (.int .i64 ((n + 1 : Nat) : Int))) ∧
    Below B w ((w.setCell ⟨g, n, none⟩ (.int .i64 x)).setCell ⟨Q, 2, none⟩ (.int .i64 ((n + 1 : Nat) : Int))) := by
  refine ⟨⟨h.bQ, by simp [World.setCell]; exact h.lQ, h.bg, h.ne, by simpa using h.len, ?_, ?_⟩, ?_⟩
  · rw [heap_set _ _ _ _ #[.slice (some ⟨g, 0, none⟩) N N, .int .i64 0, .int .i64 n] 71 (by rw [Below.heap_setCell _ _ _ _ (by simpa using h.ne.symm)]; exact h.hQ)]; rfl
  · rw [Below.heap_setCell _ _ _ _ (by simpa using h.ne), heap_set _ _ _ _ _ _ h.hg]; simp
  · exact ((Below.refl _ _).setCell h.bg _).setCell h.bQ _

set_option maxRecDepth 100000 in
set_option maxHeartbeats 1600000 in
theorem push_room (B Q g N n : Nat) (x : Int) (row : List Value) (w : World) (hn : n < N) (hN : N ≤ 4096) (hat : At B Q g N n row w) :
    Calls Yba.prog 14 #[.pointer (some ⟨Q, 0, none⟩), .int .i64 x] w fun e w' => e = .returned (.tuple #[]) ∧
      At B Q g N (n + 1) (row.set n (.int .i64 x)) w' ∧ Below B w w' := by
  obtain ⟨q0, q1, q2, f0, f1, f2⟩ := cellsQ hat.hQ
  obtain ⟨⟨v, hv⟩, fv⟩ := cellG hat.hg (n := n) (by have := hat.len; omega)
  have hgQ := hat.ne
  have i1 : (0 : Int) ≤ (n : Int) := by omega
  have i2 : (n : Int) < (N : Int) := by omega
  have i3 : (N : Int) ≤ 4096 := by omega
  have hwr : IntKind.i64.wrap (n : Int) = n := by rw [IntKind.wrap_i64]; omega
  have hNe : ((n : Int) == (N : Int)) = false := beq_eq_false_iff_ne.2 (by omega)
  have hN0 : ¬ N = 0 := by omega
  have hmod : (n : Int).tmod (N : Int) = n := Int.tmod_eq_of_lt (by omega) (by omega)
  go_enter Yba.func14, Yba.ntmps14
  go_wp2_with fail
  go_quiet (fail)
  go_wp2_with fail
  go_region_held3 (fun w' => w'.cell? ⟨Q, 0, none⟩ = some (.slice (some ⟨g, 0, none⟩) N N) ∧ w'.cell? ⟨Q, 1, none⟩ = some (.int .i64 0) ∧ w'.cell? ⟨Q, 2, none⟩ = some (.int .i64 n)) (go_keep) (fail)
  go_wp2
  go_end0
  have hp := (hat.drewN (nq + 1)).pushed x
  exact ⟨rfl, hp.1, (below_drewN (Below.refl _ _) _).trans hp.2⟩

theorem At.fresh {B Q N S : Nat} {row : List Value} {w w' : World} {d : Nat} (hB : B ≤ w.heap.size) (bQ : B ≤ Q) (lQ : Q < w.heap.size) (hl : row.length = S)
    (h1 : w'.heap[Q]? = some (.cells #[.slice (some ⟨(w.drewN d).heap.size, 0, none⟩) S S, .int .i64 0, .int .i64 N] 71 (0, 0)))
    (h2 : w'.heap[(w.drewN d).heap.size]? = some (.cells row.toArray 3 (0, 0))) (h3 : But Q (w.drewN d) w') :
    At B Q w.heap.size S N row w' ∧ Below B w w' :=
  ⟨⟨bQ, Nat.lt_of_lt_of_le lQ h3.size, hB, by omega, hl, h1, h2⟩, (below_drewN (Below.refl _ _) d).trans (h3.below bQ lQ)⟩

theorem resize_full {B Q g N S : Nat} {row : List Value} {w : World} (hat : At B Q g N N row w) (hB : B ≤ w.heap.size) (h1 : ∀ v ∈ row, v.oneCell' = true) (hS : N < S) (hS2 : S ≤ 4096) (s : Int) (hs : s = (S : Int)) (d : Nat) :
    Calls Yba.prog 30 #[.pointer (some ⟨Q, 0, none⟩), .int .i64 s] (w.drewN d) fun e w' => e = .returned (.tuple #[]) ∧
      At B Q w.heap.size S N (splice (zeros S) 0 row) w' ∧ Below B w w' := by
  subst hs
  refine (resize_some Q N S ⟨g, 0, none⟩ row (w.drewN d) hS hS2 hat.len h1 hat.lQ hat.hQ ?_).mono ?_
  · intro j v hj
    obtain ⟨hlt, hv⟩ := List.getElem?_eq_some_iff.1 hj
    have hh := hat.hg
    rw [Addr.add_lit, Nat.zero_add, World.cell?_drewN]
    simp [World.cell?, hh, hlt, hv]
  · rintro e w' ⟨rfl, a1, a2, a3⟩
    exact ⟨rfl, At.fresh hB hat.bQ hat.lQ (by rw [length_splice _ _ _ (by rw [zeros_length, hat.len]; omega), zeros_length]) a1 a2 a3⟩

set_option maxRecDepth 100000 in
set_option maxHeartbeats 1600000 in
theorem push_full (B Q g N M : Nat) (x : Int) (row : List Value) (w : World) (hM : Hid (M = 2 * N)) (hN1 : 16 ≤ N) (hN : N ≤ 2048) (h1 : ∀ v ∈ row, v.oneCell' = true) (hB : B ≤ w.heap.size) (hat : At B Q g N N row w) :
    Calls Yba.prog 14 #[.pointer (some ⟨Q, 0, none⟩), .int .i64 x] w fun e w' => e = .returned (.tuple #[]) ∧
      At B Q w.heap.size M (N + 1) ((splice (zeros M) 0 row).set N (.int .i64 x)) w' ∧ Below B w w' := by
  obtain ⟨q0, q1, q2, f0, f1, f2⟩ := cellsQ hat.hQ
  have hgQ : w.heap.size ≠ Q := by have := hat.lQ; omega
  have i1 : (0 : Int) ≤ (N : Int) := by omega
  have i2 : (N : Int) < (M : Int) := by have := hM.out; omega
  have i3 : (N : Int) ≤ 2048 := by omega
  have i4 : (16 : Int) < 2 * (N : Int) := by omega
  have i5 : decide ((16 : Int) < 2 * (N : Int)) = true := by simp; omega
  have i6 : M ≤ 4096 := by have := hM.out; omega
  have hwr : IntKind.i64.wrap (N : Int) = N := by rw [IntKind.wrap_i64]; omega
  have hN0 : ¬ M = 0 := by omega
  have hmod : (N : Int).tmod (M : Int) = N := Int.tmod_eq_of_lt (by omega) (by omega)
  go_enter Yba.func14, Yba.ntmps14
  go_wp2_with fail
  go_quiet (fail)
  go_wp2_with fail
  refine (resize_full (S := M) hat hB h1 (by omega) i6 _ (by have := hM.out; omega) _).mono ?_
  rintro e w2 ⟨rfl, hat2, hb2⟩
  obtain ⟨r0, r1, r2, e0, e1, e2⟩ := cellsQ hat2.hQ
  obtain ⟨⟨v, hv⟩, fv⟩ := cellG hat2.hg (n := N) (by rw [hat2.len]; omega)
  clear q0 q1 q2 f0 f1 f2
  go_wp2_with fail
  go_region_held3 (fun w' => w'.cell? ⟨Q, 0, none⟩ = some (.slice (some ⟨w.heap.size, 0, none⟩) M M) ∧ w'.cell? ⟨Q, 1, none⟩ = some (.int .i64 0) ∧ w'.cell? ⟨Q, 2, none⟩ = some (.int .i64 N)) (go_keep) (fail)
  go_wp2
  go_end0
  have hp := (hat2.drewN 1).pushed x
  exact ⟨rfl, hp.1, (hb2.trans (below_drewN (Below.refl _ _) _)).trans hp.2⟩

theorem resize_first {B Q S : Nat} {w : World} (bQ : B ≤ Q) (lQ : Q < w.heap.size) (hB : B ≤ w.heap.size)
    (hQ : w.heap[Q]? = some (.cells #[.slice none 0 0, .int .i64 0, .int .i64 0] 71 (0, 0))) (hS : 0 < S) (hS2 : S ≤ 4096) (s : Int) (hs : s = (S : Int)) (d : Nat) :
    Calls Yba.prog 30 #[.pointer (some ⟨Q, 0, none⟩), .int .i64 s] (w.drewN d) fun e w' => e = .returned (.tuple #[]) ∧
      At B Q w.heap.size S 0 (zeros S) w' ∧ Below B w w' := by
  subst hs
  refine (resize_none Q S (w.drewN d) hS hS2 lQ hQ).mono ?_
  rintro e w' ⟨rfl, a1, a2, a3⟩
  exact ⟨rfl, At.fresh (N := 0) hB bQ lQ (zeros_length S) a1 a2 a3⟩

set_option maxRecDepth 100000 in
set_option maxHeartbeats 1600000 in
theorem push_first' (B Q n M : Nat) (x : Int) (w : World) (hn : Hid (n = 0)) (hM : Hid (M = 16)) (bQ : B ≤ Q) (lQ : Q < w.heap.size) (hB : B ≤ w.heap.size)
    (hQ : w.heap[Q]? = some (.cells #[.slice none 0 0, .int .i64 0, .int .i64 0] 71 (0, 0))) :
    Calls Yba.prog 14 #[.pointer (some ⟨Q, 0, none⟩), .int .i64 x] w fun e w' => e = .returned (.tuple #[]) ∧
      At B Q w.heap.size M (n + 1) ((zeros M).set n (.int .i64 x)) w' ∧ Below B w w' := by
  obtain ⟨q0, q1, q2, f0, f1, f2⟩ := cellsQ hQ
  have hgQ : w.heap.size ≠ Q := by omega
  have HQ := hide hQ
  have i1 : (0 : Int) ≤ (n : Int) := by omega
  have i2 : (n : Int) < (M : Int) := by have := hM.out; have := hn.out; omega
  have i3 : (n : Int) ≤ 16 := by have := hn.out; omega
  have hwr : IntKind.i64.wrap (n : Int) = n := by rw [IntKind.wrap_i64]; omega
  have hN0 : ¬ M = 0 := by omega
  have hmod : (n : Int).tmod (M : Int) = n := Int.tmod_eq_of_lt (by omega) (by omega)
  clear hQ
  go_enter Yba.func14, Yba.ntmps14
  go_wp2_with fail
  go_quiet (fail)
  go_wp2_with fail
  refine (resize_first (S := M) bQ lQ hB (unhide HQ) (by omega) (by have := hM.out; omega) _ (by have := hM.out; omega) _).mono ?_
  rintro e w2 ⟨rfl, hat0, hb2⟩
  have hat2 : At B Q w.heap.size M n (zeros M) w2 := by rw [hn.out]; exact hat0
  obtain ⟨r0, r1, r2, e0, e1, e2⟩ := cellsQ hat2.hQ
  obtain ⟨⟨v, hv⟩, fv⟩ := cellG hat2.hg (n := n) (by rw [hat2.len]; omega)
  clear q0 q1 q2 f0 f1 f2 hat0
  go_wp2_with fail
  go_region_held3 (fun w' => w'.cell? ⟨Q, 0, none⟩ = some (.slice (some ⟨w.heap.size, 0, none⟩) M M) ∧ w'.cell? ⟨Q, 1, none⟩ = some (.int .i64 0) ∧ w'.cell? ⟨Q, 2, none⟩ = some (.int .i64 n)) (go_keep) (fail)
  go_wp2
  go_end0
  have hp := (hat2.drewN 1).pushed x
  exact ⟨rfl, hp.1, (hb2.trans (below_drewN (Below.refl _ _) _)).trans hp.2⟩

theorem push_first (B Q : Nat) (x : Int) (w : World) (bQ : B ≤ Q) (lQ : Q < w.heap.size) (hB : B ≤ w.heap.size)
    (hQ : w.heap[Q]? = some (.cells #[.slice none 0 0, .int .i64 0, .int .i64 0] 71 (0, 0))) :
    Calls Yba.prog 14 #[.pointer (some ⟨Q, 0, none⟩), .int .i64 x] w fun e w' => e = .returned (.tuple #[]) ∧
      At B Q w.heap.size 16 1 ((zeros 16).set 0 (.int .i64 x)) w' ∧ Below B w w' :=
  push_first' B Q 0 16 x w rfl rfl bQ lQ hB hQ
end Go.Proofs.Ybulkacsg.Queue
