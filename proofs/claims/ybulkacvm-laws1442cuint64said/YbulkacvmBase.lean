import Derived.Test.YbulkacvmRows
import Derived.WalkKit
import Derived.WalkSpells
import Derived.WalkLawsBesides
import Derived.Deep.OwnRows
import Derived.Deep.RegionHeld3
import Derived.Deep.DrawnRows
import Derived.BigRegion
import Derived.BigQuiet
import Derived.Deep.QuietTactic
import Derived.Handy
namespace Go.Proofs.Ybulkacvm.Big
open Go.RowKit

theorem info5 : (Yba.prog.info? 5).map (fun i => (i.zero, i.size, i.bytes)) = some (some (.int .u8 0), 1, 1) := by kernel_rfl
theorem info43 : (Yba.prog.info? 43).map (fun i => (i.zero, i.size, i.bytes)) = some (some (.int .u64 0), 1, 8) := by kernel_rfl
theorem hide {p : Prop} (h : p) : Hid p := h

/-- A byte of a row: the value at an index. -/
def B (f : Nat → Int) : Nat → Value := fun j => .int .u8 (f j)

theorem rowIs_of_owns {w : World} {base n cap g : Nat} {z : Nat → Int} (h : w.ownsRow base 5 1 (.slice (some ⟨g, 0, none⟩) n cap) n ((List.range n).map (B z))) :
    base ≤ g ∧ n ≤ cap ∧ ∃ f, w.rowIs g 5 cap f ∧ ∀ j, j < n → f j = B z j := by
  obtain ⟨_, h2⟩ := h
  rcases h2 with ⟨h3, _⟩ | ⟨g', cap', cur, hv, hb, hh, hn, _, hs, ht⟩
  · simp at h3
  · simp only [Value.slice.injEq, Option.some.injEq, Addr.mk.injEq] at hv
    obtain ⟨⟨rfl, _⟩, _, rfl⟩ := hv
    refine ⟨hb, hn, fun j => cur[j]?.getD (.int .u8 0), ⟨cur, hh, by simpa using hs, fun i hi => ?_⟩, fun j hj => ?_⟩
    · have : i < cur.size := by rw [hs]; omega
      simp [this]
    · have h4 : (cur.toList.take (n * 1))[j]? = some (B z j) := by rw [ht]; simp [hj]
      rw [List.getElem?_take, if_pos (by omega), Array.getElem?_toList] at h4
      show cur[j]?.getD _ = _
      rw [h4]; rfl

theorem eq_nil_some (a : Addr) (n c : Nat) (w : World) : (binOp .eql 22 (.slice (some a) n c) (.slice none 0 0)).run Yba.prog w = .ok (.bool false) w := by kernel_rfl
theorem eq_nil_nil (w : World) : (binOp .eql 22 (.slice none 0 0) (.slice none 0 0)).run Yba.prog w = .ok (.bool true) w := by kernel_rfl

set_option maxRecDepth 100000 in
theorem bclone_nil (w : World) : Calls Yba.prog 5 #[.slice none 0 0] w fun e w' => e = .returned (.slice none 0 0) ∧ w = w' := by
  have h1 := eq_nil_nil
  go_enter Yba.func5, Yba.ntmps5
  go_wp2
  go_ret
  exact ⟨rfl, rfl⟩
set_option maxRecDepth 100000 in
theorem sclone_nil (w : World) : Calls Yba.prog 12 #[.slice none 0 0] w fun e w' => e = .returned (.slice none 0 0) ∧ w = w' := by
  have h1 := eq_nil_nil
  go_enter Yba.func12, Yba.ntmps12
  go_wp2
  go_ret
  exact ⟨rfl, rfl⟩

theorem news_of {ad : Addr} {n : Nat} {z : Nat → Int} {w : World} (hc : ∀ j, j < n → w.cell? (ad.add j) = some (B z j)) (o : Obj) :
    ∀ j u, ((List.range n).map (B z))[j]? = some u → (w.alloc o).cell? (ad.add j) = some u := by
  intro j u hj
  by_cases h : j < n
  · simp [h] at hj
    subst hj
    have hb : Below w.heap.size w (w.alloc o) := (Below.refl _ _).alloc (Nat.le_refl _) _
    exact (hb.cell (World.block_lt_of_cell? w _ (hc j h))).trans (hc j h)
  · simp [h] at hj
theorem news_one (n : Nat) (z : Nat → Int) : ∀ u ∈ (List.range n).map (B z), u.oneCell' = true := by
  intro u hu
  obtain ⟨j, _, rfl⟩ := List.mem_map.1 hu
  rfl
theorem owns_new (w : World) : (w.alloc (.cells #[] 5)).ownsRow w.heap.size 5 1 (.slice (some ⟨w.heap.size, 0, none⟩) 0 0) 0 [] :=
  ⟨rfl, .inr ⟨w.heap.size, 0, #[], rfl, Nat.le_refl _, heap_alloc_new _ _, Nat.le_refl _, by simp [maxLen], rfl, rfl⟩⟩

theorem clone_end {w w1 : World} {v' : Value} {n : Nat} {z : Nat → Int} (h1 : w1.ownsRow w.heap.size 5 1 v' n ((List.range n).map (B z)))
    (h2 : (w.alloc (.cells #[] 5)).grownBy w1 (Value.slice (some ⟨w.heap.size, 0, none⟩) 0 0).ownBlock) (hne : ¬ v' = .slice none 0 0) :
    ∃ g cap, v' = .slice (some ⟨g, 0, none⟩) n cap ∧ w.heap.size ≤ g ∧ n ≤ cap ∧ (∃ f, w1.rowIs g 5 cap f ∧ ∀ j, j < n → f j = B z j) ∧ Below w.heap.size w w1 := by
  have hb : Below w.heap.size w w1 := ((Below.refl _ _).alloc (Nat.le_refl _) _).grown h2 (by simp) (by intro k hk; simp [Value.ownBlock] at hk; omega)
  have h1' := h1
  obtain ⟨_, h4⟩ := h1
  rcases h4 with ⟨h5, _⟩ | ⟨g, cap, cur, rfl, _⟩
  · exact absurd h5 hne
  · obtain ⟨r1, r2, r3⟩ := rowIs_of_owns h1'
    exact ⟨g, cap, rfl, r1, r2, r3, hb⟩

set_option maxRecDepth 100000 in
set_option maxHeartbeats 400000 in
theorem bclone_some (ad : Addr) (n c : Nat) (z : Nat → Int) (w : World) (hn : n ≤ 4096) (hc : ∀ j, j < n → w.cell? (ad.add j) = some (B z j)) :
    Calls Yba.prog 5 #[.slice (some ad) n c] w fun e w' => ∃ g cap, e = .returned (.slice (some ⟨g, 0, none⟩) n cap) ∧ w.heap.size ≤ g ∧ n ≤ cap ∧ (∃ f, w'.rowIs g 5 cap f ∧ ∀ j, j < n → f j = B z j) ∧ Below w.heap.size w w' := by
  have h1 := eq_nil_some
  obtain ⟨i0, hi, hz0, hz1, hz2⟩ := info_parts info5
  have HN := hide (news_of hc (.cells #[] 5))
  clear hc
  go_enter Yba.func5, Yba.ntmps5
  go_wp2_with (at_builtin; refine wpList_append_own _ rfl _ _ 22 rfl w.heap.size 5 i0 (.int .u8 0) 1 1 Yba.underlying22 hi hz0 hz1 hz2 rfl (by decide) _ 0 [] rfl (owns_new w) ad n c ((List.range n).map (B z)) rfl (by simp) HN.out (news_one n z) (by unfold maxLen; omega) (by omega) (by simp) ?_)
  intro v' w1 r1 r2 r3
  obtain ⟨g, cap, rfl, e1, e2, e3, e4⟩ := clone_end r1 r2 r3
  clear r1 r2 r3
  have HE := hide e3
  clear e3
  go_wp2
  go_ret
  exact ⟨g, cap, rfl, e1, e2, HE.out, e4⟩

set_option maxRecDepth 100000 in
set_option maxHeartbeats 400000 in
theorem sclone_some (ad : Addr) (n c : Nat) (z : Nat → Int) (w : World) (hn : n ≤ 4096) (hc : ∀ j, j < n → w.cell? (ad.add j) = some (B z j)) :
    Calls Yba.prog 12 #[.slice (some ad) n c] w fun e w' => ∃ g cap, e = .returned (.slice (some ⟨g, 0, none⟩) n cap) ∧ w.heap.size ≤ g ∧ n ≤ cap ∧ (∃ f, w'.rowIs g 5 cap f ∧ ∀ j, j < n → f j = B z j) ∧ Below w.heap.size w w' := by
  have h1 := eq_nil_some
  obtain ⟨i0, hi, hz0, hz1, hz2⟩ := info_parts info5
  have HN := hide (news_of hc (.cells #[] 5))
  clear hc
  go_enter Yba.func12, Yba.ntmps12
  go_wp2_with (at_builtin; refine wpList_append_own _ rfl _ _ 22 rfl w.heap.size 5 i0 (.int .u8 0) 1 1 Yba.underlying22 hi hz0 hz1 hz2 rfl (by decide) _ 0 [] rfl (owns_new w) ad n c ((List.range n).map (B z)) rfl (by simp) HN.out (news_one n z) (by unfold maxLen; omega) (by omega) (by simp) ?_)
  intro v' w1 r1 r2 r3
  obtain ⟨g, cap, rfl, e1, e2, e3, e4⟩ := clone_end r1 r2 r3
  clear r1 r2 r3
  have HE := hide e3
  clear e3
  go_wp2
  go_ret
  exact ⟨g, cap, rfl, e1, e2, HE.out, e4⟩

end Go.Proofs.Ybulkacvm.Big
