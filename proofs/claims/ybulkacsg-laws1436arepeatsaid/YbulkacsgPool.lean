import Derived.Test.YbulkacsgRows
import Derived.WalkKit
import Derived.WalkSpells
import Derived.WalkLawsBesides
import Derived.RegionCalls
import Derived.Handy
namespace Go.Proofs.Ybulkacsg.Pool
open Go.RowKit

set_option maxRecDepth 100000 in
theorem load64 (b o : Nat) (v : Int) (w : World) (h : w.cell? ⟨b, o, none⟩ = some (.int .i64 v)) :
    Calls Yba.prog 13 #[.pointer (some ⟨b, o, none⟩)] w fun e w' => e = .returned (.int .i64 v) ∧ w = w' := by
  have hl := run_call_load (P := Yba.prog) Yba.func29 (by kernel_rfl) (by kernel_rfl) (by kernel_rfl) .i64 (by kernel_rfl) h
  go_enter Yba.func13, Yba.ntmps13
  go_wp2
  go_ret
  exact ⟨rfl, rfl⟩

set_option maxRecDepth 100000 in
theorem store64 (b o : Nat) (v : Int) (u : Value) (w : World) (h : w.cell? ⟨b, o, none⟩ = some u) (hz : w.frozen? ⟨b, o, none⟩ = false) :
    Calls Yba.prog 10 #[.pointer (some ⟨b, o, none⟩), .int .i64 v] w fun e w' => e = .returned (.tuple #[]) ∧ w.setCell ⟨b, o, none⟩ (.int .i64 v) = w' := by
  have hl := run_call_store (P := Yba.prog) Yba.func22 (by kernel_rfl) (by kernel_rfl) (by kernel_rfl) (by kernel_rfl) (k := .i64) (y := v) h hz
  go_enter Yba.func10, Yba.ntmps10
  go_wp2
  go_end0
  exact ⟨rfl, rfl⟩

set_option maxRecDepth 100000 in
theorem loadBool (b o : Nat) (v : Int) (w : World) (h : w.cell? ⟨b, o, none⟩ = some (.int .u32 v)) :
    Calls Yba.prog 23 #[.pointer (some ⟨b, o, none⟩)] w fun e w' => e = .returned (.bool (v != 0)) ∧ w = w' := by
  have hl := run_call_load (P := Yba.prog) Yba.func32 (by kernel_rfl) (by kernel_rfl) (by kernel_rfl) .u32 (by kernel_rfl) h
  go_enter Yba.func23, Yba.ntmps23
  go_wp2
  go_ret
  exact ⟨rfl, rfl⟩

set_option maxRecDepth 100000 in
theorem cas_hit (b o : Nat) (v y : Int) (w : World) (h : w.cell? ⟨b, o, none⟩ = some (.int .i64 v)) (hz : w.frozen? ⟨b, o, none⟩ = false) :
    Calls Yba.prog 33 #[.pointer (some ⟨b, o, none⟩), .int .i64 v, .int .i64 y] w fun e w' => e = .returned (.bool true) ∧ w.setCell ⟨b, o, none⟩ (.int .i64 y) = w' := by
  have hl := run_call_cas_hit (P := Yba.prog) Yba.func38 (by kernel_rfl) (by kernel_rfl) (by kernel_rfl) .i64 (by kernel_rfl) (y := y) h hz
  go_enter Yba.func33, Yba.ntmps33
  go_wp2
  go_ret
  exact ⟨rfl, rfl⟩

/-- The pool in block b: its capacity, what is placed, waiting, closed. -/
structure Is (b : Nat) (cap placed waiting closed : Int) (w : World) : Prop where
  c1 : w.cell? ⟨b, 1, none⟩ = some (.int .i64 cap)
  c2 : w.cell? ⟨b, 203, none⟩ = some (.int .i64 placed)
  c3 : w.cell? ⟨b, 221, none⟩ = some (.int .i64 waiting)
  c4 : w.cell? ⟨b, 222, none⟩ = some (.int .u32 closed)
  f1 : w.frozen? ⟨b, 1, none⟩ = false
  f2 : w.frozen? ⟨b, 203, none⟩ = false
  f3 : w.frozen? ⟨b, 221, none⟩ = false
  f4 : w.frozen? ⟨b, 222, none⟩ = false

theorem Is.setCap {b : Nat} {c p q d : Int} {w : World} (h : Is b c p q d w) (x : Int) : Is b x p q d (w.setCell ⟨b, 1, none⟩ (.int .i64 x)) := by
  obtain ⟨c1, c2, c3, c4, f1, f2, f3, f4⟩ := h
  constructor <;> go_simp
theorem Is.setPlaced {b : Nat} {c p q d : Int} {w : World} (h : Is b c p q d w) (x : Int) : Is b c x q d (w.setCell ⟨b, 203, none⟩ (.int .i64 x)) := by
  obtain ⟨c1, c2, c3, c4, f1, f2, f3, f4⟩ := h
  constructor <;> go_simp
theorem Is.setWaiting {b : Nat} {c p q d : Int} {w : World} (h : Is b c p q d w) (x : Int) : Is b c p x d (w.setCell ⟨b, 221, none⟩ (.int .i64 x)) := by
  obtain ⟨c1, c2, c3, c4, f1, f2, f3, f4⟩ := h
  constructor <;> go_simp
theorem Is.setClosed {b : Nat} {c p q d : Int} {w : World} (h : Is b c p q d w) (x : Int) : Is b c p q x (w.setCell ⟨b, 222, none⟩ (.int .u32 x)) := by
  obtain ⟨c1, c2, c3, c4, f1, f2, f3, f4⟩ := h
  constructor <;> go_simp

theorem z1 : Yba.zeroCells59[1]? = some (.int .i64 0) := by kernel_rfl
theorem z2 : Yba.zeroCells59[203]? = some (.int .i64 0) := by kernel_rfl
theorem z3 : Yba.zeroCells59[221]? = some (.int .i64 0) := by kernel_rfl
theorem z4 : Yba.zeroCells59[222]? = some (.int .u32 0) := by kernel_rfl

theorem cell_of {w : World} {b o : Nat} {c : Array Value} {t : TypeId} {v : Value} (h : w.heap[b]? = some (.cells c t (0, 0))) (hc : c[o]? = some v) : w.cell? ⟨b, o, none⟩ = some v := by
  simp [World.cell?, h, hc]
theorem free_of {w : World} {b o : Nat} {c : Array Value} {t : TypeId} (h : w.heap[b]? = some (.cells c t (0, 0))) : w.frozen? ⟨b, o, none⟩ = false := by
  simp [World.frozen?, h]

theorem Is.new (w : World) : Is w.heap.size 0 0 0 0 (w.alloc (.cells Yba.zeroCells59 59)) :=
  have h := heap_alloc_new w (.cells Yba.zeroCells59 59)
  ⟨cell_of h z1, cell_of h z2, cell_of h z3, cell_of h z4, free_of h, free_of h, free_of h, free_of h⟩

set_option maxRecDepth 100000 in
set_option maxHeartbeats 400000 in
theorem take_yes (b : Nat) (c p q d : Int) (w : World) (h : Is b c p q d w) (hp : -1000 ≤ p) (hp2 : p ≤ 1000) (hfree : c < 0 ∨ (0 ≤ c ∧ p < c)) :
    Calls Yba.prog 24 #[.pointer (some ⟨b, 0, none⟩)] w fun e w' => e = .returned (.bool true) ∧ w.setCell ⟨b, 203, none⟩ (.int .i64 (p + 1)) = w' := by
  obtain ⟨c1, c2, c3, c4, f1, f2, f3, f4⟩ := h
  go_enter Yba.func24, Yba.ntmps24
  go_wp2_with fail
  refine wp_loop_rounds 1 ?_
  rw [rounds_succ]
  rcases hfree with hc | ⟨hc0, hc⟩
  all_goals
    go_wp2_with fail
    refine (load64 b 203 p _ c2).mono ?_
    rintro e w' ⟨rfl, rfl⟩
    go_wp2_with fail
    refine (load64 b 1 c _ c1).mono ?_
    rintro e w' ⟨rfl, rfl⟩
    go_wp2_with (go_at_call 33; refine (cas_hit b 203 p _ _ c2 f2).mono ?_; rintro e w' ⟨rfl, rfl⟩)
    go_ret
    exact ⟨rfl, rfl⟩

set_option maxRecDepth 100000 in
set_option maxHeartbeats 400000 in
theorem take_no (b : Nat) (c p q d : Int) (w : World) (h : Is b c p q d w) (hc : 0 ≤ c) (hcp : c ≤ p) :
    Calls Yba.prog 24 #[.pointer (some ⟨b, 0, none⟩)] w fun e w' => e = .returned (.bool false) ∧ w = w' := by
  obtain ⟨c1, c2, c3, c4, f1, f2, f3, f4⟩ := h
  go_enter Yba.func24, Yba.ntmps24
  go_wp2_with fail
  refine wp_loop_rounds 1 ?_
  rw [rounds_succ]
  go_wp2_with fail
  refine (load64 b 203 p _ c2).mono ?_
  rintro e w' ⟨rfl, rfl⟩
  go_wp2_with fail
  refine (load64 b 1 c _ c1).mono ?_
  rintro e w' ⟨rfl, rfl⟩
  go_wp2_with fail
  go_ret
  exact ⟨rfl, rfl⟩

set_option maxRecDepth 100000 in
set_option maxHeartbeats 400000 in
theorem once_closed (b : Nat) (c p q d : Int) (w : World) (h : Is b c p q d w) (hd : (d != 0) = true) :
    Calls Yba.prog 12 #[.pointer (some ⟨b, 0, none⟩)] w fun e w' => e = .returned (.bool false) ∧ w = w' := by
  go_enter Yba.func12, Yba.ntmps12
  go_wp2_with fail
  refine (loadBool b 222 d _ h.c4).mono ?_
  rintro e w' ⟨rfl, rfl⟩
  go_wp2_with fail
  go_ret
  exact ⟨rfl, rfl⟩

set_option maxRecDepth 100000 in
set_option maxHeartbeats 400000 in
theorem once_waiting (b : Nat) (c p q d : Int) (w : World) (h : Is b c p q d w) (hd : (d != 0) = false) (hq : 0 < q) :
    Calls Yba.prog 12 #[.pointer (some ⟨b, 0, none⟩)] w fun e w' => e = .returned (.bool false) ∧ w = w' := by
  go_enter Yba.func12, Yba.ntmps12
  go_wp2_with fail
  refine (loadBool b 222 d _ h.c4).mono ?_
  rintro e w' ⟨rfl, rfl⟩
  go_wp2_with fail
  refine (load64 b 221 q _ h.c3).mono ?_
  rintro e w' ⟨rfl, rfl⟩
  go_wp2_with fail
  go_ret
  exact ⟨rfl, rfl⟩

set_option maxRecDepth 100000 in
set_option maxHeartbeats 400000 in
theorem once_full (b : Nat) (c p q d : Int) (w : World) (h : Is b c p q d w) (hd : (d != 0) = false) (hq : ¬ 0 < q) (hc : 0 ≤ c) (hcp : c ≤ p) :
    Calls Yba.prog 12 #[.pointer (some ⟨b, 0, none⟩)] w fun e w' => e = .returned (.bool false) ∧ w = w' := by
  go_enter Yba.func12, Yba.ntmps12
  go_wp2_with fail
  refine (loadBool b 222 d _ h.c4).mono ?_
  rintro e w' ⟨rfl, rfl⟩
  go_wp2_with fail
  refine (load64 b 221 q _ h.c3).mono ?_
  rintro e w' ⟨rfl, rfl⟩
  go_wp2_with fail
  refine (take_no b c p q d _ h hc hcp).mono ?_
  rintro e w' ⟨rfl, rfl⟩
  go_wp2_with fail
  go_ret
  exact ⟨rfl, rfl⟩

set_option maxRecDepth 100000 in
set_option maxHeartbeats 400000 in
theorem once_free (b : Nat) (c p q d : Int) (w : World) (h : Is b c p q d w) (hd : (d != 0) = false) (hq : ¬ 0 < q) (hp : -1000 ≤ p) (hp2 : p ≤ 1000) (hfree : c < 0 ∨ (0 ≤ c ∧ p < c)) :
    Calls Yba.prog 12 #[.pointer (some ⟨b, 0, none⟩)] w fun e w' => e = .returned (.bool true) ∧ w.setCell ⟨b, 203, none⟩ (.int .i64 (p + 1)) = w' := by
  have HF : Hid (c < 0 ∨ (0 ≤ c ∧ p < c)) := hfree
  clear hfree
  go_enter Yba.func12, Yba.ntmps12
  go_wp2_with fail
  refine (loadBool b 222 d _ h.c4).mono ?_
  rintro e w' ⟨rfl, rfl⟩
  go_wp2_with fail
  refine (load64 b 221 q _ h.c3).mono ?_
  rintro e w' ⟨rfl, rfl⟩
  go_wp2_with fail
  refine (take_yes b c p q d _ h hp hp2 HF.out).mono ?_
  rintro e w' ⟨rfl, rfl⟩
  go_wp2_with fail
  refine (loadBool b 222 d _ (h.setPlaced _).c4).mono ?_
  rintro e w' ⟨rfl, rfl⟩
  go_wp2_with fail
  go_ret
  exact ⟨rfl, rfl⟩
end Go.Proofs.Ybulkacsg.Pool
