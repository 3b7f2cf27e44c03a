import Derived.Test.YbulkacsgPool
import Derived.RegionCalls
namespace Go.Proofs.Ybulkacsg.Pool
open Go.RowKit

set_option maxRecDepth 100000 in
theorem storeBool (b o : Nat) (u : Value) (w : World) (h : w.cell? ⟨b, o, none⟩ = some u) (hz : w.frozen? ⟨b, o, none⟩ = false) :
    Calls Yba.prog 9 #[.pointer (some ⟨b, o, none⟩), .bool true] w fun e w' => e = .returned (.tuple #[]) ∧ (w.drew).setCell ⟨b, o, none⟩ (.int .u32 1) = w' := by
  have hl := run_call_store (P := Yba.prog) Yba.func20 (by kernel_rfl) (by kernel_rfl) (by kernel_rfl) (by kernel_rfl) (k := .u32) (y := 1) (w := w.drew) (a := ⟨b, o, none⟩) (u := u) h hz
  go_enter Yba.func9, Yba.ntmps9
  go_wp2_with fail
  go_region_calls
  all_goals (go_end0; exact ⟨rfl, rfl⟩)

/-- The expected answer. -/
def want (cl wt : Bool) (c p : Int) : Bool := !cl && !wt && (decide (c < 0) || decide (p < c))

set_option maxRecDepth 100000 in
theorem expect_all (cl wt : Bool) (c p : Int) (w : World) :
    Calls Yba.prog 11 #[.bool cl, .bool wt, .int .i64 c, .int .i64 p] w fun e w' => e = .returned (.bool (want cl wt c p)) ∧ w = w' := by
  cases cl
  · cases wt
    · by_cases hc : c < 0
      · go_enter Yba.func11, Yba.ntmps11
        go_wp2
        go_ret
        exact ⟨by simp [want, hc], rfl⟩
      · by_cases hp : p < c
        · go_enter Yba.func11, Yba.ntmps11
          go_wp2
          go_ret
          exact ⟨by simp [want, hp], rfl⟩
        · go_enter Yba.func11, Yba.ntmps11
          go_wp2
          go_ret
          exact ⟨by simp [want, hp, hc], rfl⟩
    · go_enter Yba.func11, Yba.ntmps11
      go_wp2
      go_ret
      exact ⟨by simp [want], rfl⟩
  · go_enter Yba.func11, Yba.ntmps11
    go_wp2
    go_ret
    exact ⟨by simp [want], rfl⟩

/-- A pool set up, open and unwaited-for or not; one call of placeAtOnce. -/
theorem once_all (b : Nat) (c p q d : Int) (cl wt : Bool) (w : World) (h : Is b c p q d w) (hd : (d != 0) = cl) (hq : (decide (0 < q)) = wt) (hp : -1000 ≤ p) (hp2 : p ≤ 1000) :
    Calls Yba.prog 12 #[.pointer (some ⟨b, 0, none⟩)] w fun e w' => e = .returned (.bool (want cl wt c p)) ∧ w'.cell? ⟨b, 203, none⟩ = some (.int .i64 (if want cl wt c p then p + 1 else p)) ∧ Below b w w' := by
  cases hcl : cl
  · cases hwt : wt
    · subst hcl; subst hwt
      have hq' : ¬ 0 < q := by simpa using hq
      by_cases hf : c < 0 ∨ (0 ≤ c ∧ p < c)
      · have e1 : want false false c p = true := by simp [want]; omega
        rw [e1]
        refine (once_free b c p q d w h hd hq' hp hp2 hf).mono ?_
        rintro e w' ⟨rfl, rfl⟩
        exact ⟨rfl, (h.setPlaced _).c2, (Below.refl _ _).setCell (p := ⟨b, 203, none⟩) (Nat.le_refl _) _⟩
      · have e1 : want false false c p = false := by simp [want]; omega
        rw [e1]
        refine (once_full b c p q d w h hd hq' (by omega) (by omega)).mono ?_
        rintro e w' ⟨rfl, rfl⟩
        exact ⟨rfl, h.c2, Below.refl _ _⟩
    · subst hcl; subst hwt
      have e1 : want false true c p = false := by simp [want]
      rw [e1]
      refine (once_waiting b c p q d w h hd (by simpa using hq)).mono ?_
      rintro e w' ⟨rfl, rfl⟩
      exact ⟨rfl, h.c2, Below.refl _ _⟩
  · subst hcl
    have e1 : want true wt c p = false := by simp [want]
    rw [e1]
    refine (once_closed b c p q d w h hd).mono ?_
    rintro e w' ⟨rfl, rfl⟩
    exact ⟨rfl, h.c2, Below.refl _ _⟩

theorem set_cap (b : Nat) (c p q d x : Int) (w0 w : World) (h : Is b c p q d w) (hb : Below b w0 w) :
    Calls Yba.prog 10 #[.pointer (some ⟨b, 1, none⟩), .int .i64 x] w fun e w' => e = .returned (.tuple #[]) ∧ Is b x p q d w' ∧ Below b w0 w' := by
  refine (store64 b 1 x _ w h.c1 h.f1).mono ?_
  rintro e w' ⟨rfl, rfl⟩
  exact ⟨rfl, h.setCap x, hb.setCell (p := ⟨b, 1, none⟩) (Nat.le_refl _) _⟩
theorem set_placed (b : Nat) (c p q d x : Int) (w0 w : World) (h : Is b c p q d w) (hb : Below b w0 w) :
    Calls Yba.prog 10 #[.pointer (some ⟨b, 203, none⟩), .int .i64 x] w fun e w' => e = .returned (.tuple #[]) ∧ Is b c x q d w' ∧ Below b w0 w' := by
  refine (store64 b 203 x _ w h.c2 h.f2).mono ?_
  rintro e w' ⟨rfl, rfl⟩
  exact ⟨rfl, h.setPlaced x, hb.setCell (p := ⟨b, 203, none⟩) (Nat.le_refl _) _⟩
theorem set_waiting (b : Nat) (c p q d x : Int) (w0 w : World) (h : Is b c p q d w) (hb : Below b w0 w) :
    Calls Yba.prog 10 #[.pointer (some ⟨b, 221, none⟩), .int .i64 x] w fun e w' => e = .returned (.tuple #[]) ∧ Is b c p x d w' ∧ Below b w0 w' := by
  refine (store64 b 221 x _ w h.c3 h.f3).mono ?_
  rintro e w' ⟨rfl, rfl⟩
  exact ⟨rfl, h.setWaiting x, hb.setCell (p := ⟨b, 221, none⟩) (Nat.le_refl _) _⟩
theorem Is.drew {b : Nat} {c p q d : Int} {w : World} (h : Is b c p q d w) : Is b c p q d w.drew := ⟨h.c1, h.c2, h.c3, h.c4, h.f1, h.f2, h.f3, h.f4⟩
theorem set_closed (b : Nat) (c p q d : Int) (w0 w : World) (h : Is b c p q d w) (hb : Below b w0 w) :
    Calls Yba.prog 9 #[.pointer (some ⟨b, 222, none⟩), .bool true] w fun e w' => e = .returned (.tuple #[]) ∧ Is b c p q 1 w' ∧ Below b w0 w' := by
  refine (storeBool b 222 _ w h.c4 h.f4).mono ?_
  rintro e w' ⟨rfl, rfl⟩
  exact ⟨rfl, h.drew.setClosed 1, hb.drew.setCell (p := ⟨b, 222, none⟩) (Nat.le_refl _) _⟩

set_option maxRecDepth 100000 in
set_option maxHeartbeats 800000 in
theorem once_walk_ff (c p : Int) (w : World) (hc1 : -128 ≤ c) (hc2 : c ≤ 127) (hp1 : -128 ≤ p) (hp2 : p ≤ 127) :
    Calls Yba.prog 3 #[.bool false, .bool false, .int .i8 c, .int .i8 p] w fun e w' => e = .returned (.bool true) ∧ Below w.heap.size w w' := by
  have h0 := Is.new w
  have b0 : Below w.heap.size w (w.alloc (.cells Yba.zeroCells59 59)) := (Below.refl _ _).alloc (Nat.le_refl _) _
  go_enter Yba.func3, Yba.ntmps3
  go_wp2_with fail
  refine (set_cap w.heap.size 0 0 0 0 c w _ h0 b0).mono ?_
  rintro e w1 ⟨rfl, h1, b1⟩
  clear h0 b0
  go_wp2_with fail
  refine (set_placed w.heap.size c 0 0 0 p w _ h1 b1).mono ?_
  rintro e w2 ⟨rfl, h2, b2⟩
  clear h1 b1
  go_wp2_with fail
  refine (expect_all false false c p _).mono ?_
  rintro e w' ⟨rfl, rfl⟩
  go_wp2_with fail
  refine (once_all w.heap.size c p 0 0 false false _ h2 (by decide) (by decide) (by omega) (by omega)).mono ?_
  rintro e w9 ⟨rfl, h9, b9⟩
  have HB9 : Hid (Below w.heap.size w w9) := b2.trans b9
  clear b2 b9 h2
  cases hr : want false false c p
  · rw [hr] at h9
    go_wp2_with fail
    refine (load64 w.heap.size 203 p _ h9).mono ?_
    rintro e w' ⟨rfl, rfl⟩
    go_wp2_with fail
    go_ret
    exact ⟨by simp, HB9.out⟩
  · rw [hr] at h9
    go_wp2_with fail
    refine (load64 w.heap.size 203 (p + 1) _ h9).mono ?_
    rintro e w' ⟨rfl, rfl⟩
    go_wp2_with fail
    go_ret
    exact ⟨by simp, HB9.out⟩

set_option maxRecDepth 100000 in
set_option maxHeartbeats 800000 in
theorem once_walk_ft (c p : Int) (w : World) (hc1 : -128 ≤ c) (hc2 : c ≤ 127) (hp1 : -128 ≤ p) (hp2 : p ≤ 127) :
    Calls Yba.prog 3 #[.bool false, .bool true, .int .i8 c, .int .i8 p] w fun e w' => e = .returned (.bool true) ∧ Below w.heap.size w w' := by
  have h0 := Is.new w
  have b0 : Below w.heap.size w (w.alloc (.cells Yba.zeroCells59 59)) := (Below.refl _ _).alloc (Nat.le_refl _) _
  go_enter Yba.func3, Yba.ntmps3
  go_wp2_with fail
  refine (set_waiting w.heap.size 0 0 0 0 1 w _ h0 b0).mono ?_
  rintro e w1 ⟨rfl, h1, b1⟩
  clear h0 b0
  go_wp2_with fail
  refine (set_cap w.heap.size 0 0 1 0 c w _ h1 b1).mono ?_
  rintro e w2 ⟨rfl, h2, b2⟩
  clear h1 b1
  go_wp2_with fail
  refine (set_placed w.heap.size c 0 1 0 p w _ h2 b2).mono ?_
  rintro e w3 ⟨rfl, h3, b3⟩
  clear h2 b2
  go_wp2_with fail
  refine (expect_all false true c p _).mono ?_
  rintro e w' ⟨rfl, rfl⟩
  go_wp2_with fail
  refine (once_all w.heap.size c p 1 0 false true _ h3 (by decide) (by decide) (by omega) (by omega)).mono ?_
  rintro e w9 ⟨rfl, h9, b9⟩
  have HB9 : Hid (Below w.heap.size w w9) := b3.trans b9
  clear b3 b9 h3
  cases hr : want false true c p
  · rw [hr] at h9
    go_wp2_with fail
    refine (load64 w.heap.size 203 p _ h9).mono ?_
    rintro e w' ⟨rfl, rfl⟩
    go_wp2_with fail
    go_ret
    exact ⟨by simp, HB9.out⟩
  · rw [hr] at h9
    go_wp2_with fail
    refine (load64 w.heap.size 203 (p + 1) _ h9).mono ?_
    rintro e w' ⟨rfl, rfl⟩
    go_wp2_with fail
    go_ret
    exact ⟨by simp, HB9.out⟩

set_option maxRecDepth 100000 in
set_option maxHeartbeats 800000 in
theorem once_walk_tf (c p : Int) (w : World) (hc1 : -128 ≤ c) (hc2 : c ≤ 127) (hp1 : -128 ≤ p) (hp2 : p ≤ 127) :
    Calls Yba.prog 3 #[.bool true, .bool false, .int .i8 c, .int .i8 p] w fun e w' => e = .returned (.bool true) ∧ Below w.heap.size w w' := by
  have h0 := Is.new w
  have b0 : Below w.heap.size w (w.alloc (.cells Yba.zeroCells59 59)) := (Below.refl _ _).alloc (Nat.le_refl _) _
  go_enter Yba.func3, Yba.ntmps3
  go_wp2_with fail
  refine (set_closed w.heap.size 0 0 0 0  w _ h0 b0).mono ?_
  rintro e w1 ⟨rfl, h1, b1⟩
  clear h0 b0
  go_wp2_with fail
  refine (set_cap w.heap.size 0 0 0 1 c w _ h1 b1).mono ?_
  rintro e w2 ⟨rfl, h2, b2⟩
  clear h1 b1
  go_wp2_with fail
  refine (set_placed w.heap.size c 0 0 1 p w _ h2 b2).mono ?_
  rintro e w3 ⟨rfl, h3, b3⟩
  clear h2 b2
  go_wp2_with fail
  refine (expect_all true false c p _).mono ?_
  rintro e w' ⟨rfl, rfl⟩
  go_wp2_with fail
  refine (once_all w.heap.size c p 0 1 true false _ h3 (by decide) (by decide) (by omega) (by omega)).mono ?_
  rintro e w9 ⟨rfl, h9, b9⟩
  have HB9 : Hid (Below w.heap.size w w9) := b3.trans b9
  clear b3 b9 h3
  cases hr : want true false c p
  · rw [hr] at h9
    go_wp2_with fail
    refine (load64 w.heap.size 203 p _ h9).mono ?_
    rintro e w' ⟨rfl, rfl⟩
    go_wp2_with fail
    go_ret
    exact ⟨by simp, HB9.out⟩
  · rw [hr] at h9
    go_wp2_with fail
    refine (load64 w.heap.size 203 (p + 1) _ h9).mono ?_
    rintro e w' ⟨rfl, rfl⟩
    go_wp2_with fail
    go_ret
    exact ⟨by simp, HB9.out⟩

set_option maxRecDepth 100000 in
set_option maxHeartbeats 800000 in
theorem once_walk_tt (c p : Int) (w : World) (hc1 : -128 ≤ c) (hc2 : c ≤ 127) (hp1 : -128 ≤ p) (hp2 : p ≤ 127) :
    Calls Yba.prog 3 #[.bool true, .bool true, .int .i8 c, .int .i8 p] w fun e w' => e = .returned (.bool true) ∧ Below w.heap.size w w' := by
  have h0 := Is.new w
  have b0 : Below w.heap.size w (w.alloc (.cells Yba.zeroCells59 59)) := (Below.refl _ _).alloc (Nat.le_refl _) _
  go_enter Yba.func3, Yba.ntmps3
  go_wp2_with fail
  refine (set_closed w.heap.size 0 0 0 0  w _ h0 b0).mono ?_
  rintro e w1 ⟨rfl, h1, b1⟩
  clear h0 b0
  go_wp2_with fail
  refine (set_waiting w.heap.size 0 0 0 1 1 w _ h1 b1).mono ?_
  rintro e w2 ⟨rfl, h2, b2⟩
  clear h1 b1
  go_wp2_with fail
  refine (set_cap w.heap.size 0 0 1 1 c w _ h2 b2).mono ?_
  rintro e w3 ⟨rfl, h3, b3⟩
  clear h2 b2
  go_wp2_with fail
  refine (set_placed w.heap.size c 0 1 1 p w _ h3 b3).mono ?_
  rintro e w4 ⟨rfl, h4, b4⟩
  clear h3 b3
  go_wp2_with fail
  refine (expect_all true true c p _).mono ?_
  rintro e w' ⟨rfl, rfl⟩
  go_wp2_with fail
  refine (once_all w.heap.size c p 1 1 true true _ h4 (by decide) (by decide) (by omega) (by omega)).mono ?_
  rintro e w9 ⟨rfl, h9, b9⟩
  have HB9 : Hid (Below w.heap.size w w9) := b4.trans b9
  clear b4 b9 h4
  cases hr : want true true c p
  · rw [hr] at h9
    go_wp2_with fail
    refine (load64 w.heap.size 203 p _ h9).mono ?_
    rintro e w' ⟨rfl, rfl⟩
    go_wp2_with fail
    go_ret
    exact ⟨by simp, HB9.out⟩
  · rw [hr] at h9
    go_wp2_with fail
    refine (load64 w.heap.size 203 (p + 1) _ h9).mono ?_
    rintro e w' ⟨rfl, rfl⟩
    go_wp2_with fail
    go_ret
    exact ⟨by simp, HB9.out⟩

theorem once_walk (cl wt : Bool) (c p : Int) (w : World) (hc1 : -128 ≤ c) (hc2 : c ≤ 127) (hp1 : -128 ≤ p) (hp2 : p ≤ 127) :
    Calls Yba.prog 3 #[.bool cl, .bool wt, .int .i8 c, .int .i8 p] w fun e w' => e = .returned (.bool true) ∧ Below w.heap.size w w' := by
  cases cl <;> cases wt
  · exact once_walk_ff c p w hc1 hc2 hp1 hp2
  · exact once_walk_ft c p w hc1 hc2 hp1 hp2
  · exact once_walk_tf c p w hc1 hc2 hp1 hp2
  · exact once_walk_tt c p w hc1 hc2 hp1 hp2
end Go.Proofs.Ybulkacsg.Pool
