import Derived.Test.YbulkacsgPush
namespace Go.Proofs.Ybulkacsg.Queue
open Go.RowKit

/-- The ring's size behind n pushes, n ≤ 1024. -/
def ring (n : Nat) : Nat := if n = 0 then 0 else if n ≤ 16 then 16 else if n ≤ 32 then 32 else if n ≤ 64 then 64 else if n ≤ 128 then 128 else if n ≤ 256 then 256 else if n ≤ 512 then 512 else 1024

theorem ring_succ (n : Nat) (h0 : n ≠ 0) (h : n < 1024) : (n = ring n ∧ ring (n + 1) = 2 * n ∧ 16 ≤ n ∧ n ≤ 512) ∨ (n < ring n ∧ ring (n + 1) = ring n) := by
  unfold ring
  repeat' split
  all_goals omega
theorem ring_le (n : Nat) (h : n ≤ 1024) : ring n ≤ 1024 ∧ n ≤ ring n := by
  unfold ring
  repeat' split
  all_goals omega

def St (B Q : Nat) (xs : List Int) (w : World) : Prop :=
  (xs = [] ∧ B ≤ Q ∧ Q < w.heap.size ∧ w.heap[Q]? = some (.cells #[.slice none 0 0, .int .i64 0, .int .i64 0] 71 (0, 0))) ∨
  (xs ≠ [] ∧ ∃ g row, At B Q g (ring xs.length) xs.length row w ∧ (∀ v ∈ row, v.oneCell' = true) ∧ row.take xs.length = xs.map (Value.int .i64))

theorem zeros_one (S : Nat) : ∀ v ∈ zeros S, v.oneCell' = true := by
  intro v hv
  simp [zeros, madeCells] at hv
  obtain ⟨j, _, rfl⟩ := hv
  simp [Nat.mod_one, Value.oneCell']

theorem set_one {row : List Value} (h : ∀ v ∈ row, v.oneCell' = true) (n : Nat) (x : Int) : ∀ v ∈ row.set n (.int .i64 x), v.oneCell' = true := by
  intro v hv
  rcases List.mem_or_eq_of_mem_set hv with h' | rfl
  · exact h v h'
  · rfl

theorem splice_one {a b : List Value} (n : Nat) (ha : ∀ v ∈ a, v.oneCell' = true) (hb : ∀ v ∈ b, v.oneCell' = true) : ∀ v ∈ splice a n b, v.oneCell' = true := by
  intro v hv
  simp only [splice, List.mem_append] at hv
  rcases hv with h | h | h
  · exact ha v (List.mem_of_mem_take h)
  · exact hb v h
  · exact ha v (List.mem_of_mem_drop h)

theorem take_set_snoc {row : List Value} {xs : List Int} (x : Int) (h : row.take xs.length = xs.map (Value.int .i64)) (hlt : xs.length < row.length) :
    (row.set xs.length (.int .i64 x)).take (xs ++ [x]).length = (xs ++ [x]).map (Value.int .i64) := by
  have hl : (xs ++ [x]).length = xs.length + 1 := by simp
  rw [hl, List.take_succ_eq_append_getElem (by simpa using hlt), List.getElem_set_self, List.map_append, ← h]
  congr 1
  rw [List.take_set]
  apply List.set_eq_of_length_le
  rw [List.length_take]; omega

theorem push_St (B Q : Nat) (xs : List Int) (x : Int) (w : World) (hst : St B Q xs w) (hlt : xs.length < 1024) (hB : B ≤ w.heap.size) :
    Calls Yba.prog 14 #[.pointer (some ⟨Q, 0, none⟩), .int .i64 x] w fun e w' => e = .returned (.tuple #[]) ∧ St B Q (xs ++ [x]) w' ∧ Below B w w' := by
  rcases hst with ⟨rfl, bQ, lQ, hQ⟩ | ⟨hne, g, row, hat, h1, ht⟩
  · refine (push_first B Q x w bQ lQ hB hQ).mono ?_
    rintro e w' ⟨rfl, hat, hb⟩
    refine ⟨rfl, .inr ⟨by simp, _, _, hat, set_one (zeros_one 16) _ _, ?_⟩, hb⟩
    exact take_set_snoc (xs := []) x (by simp) (by rw [zeros_length]; simp)
  · have hn0 : xs.length ≠ 0 := fun h => hne (List.eq_nil_of_length_eq_zero h)
    have hl := ring_le xs.length (by omega)
    rcases ring_succ xs.length hn0 hlt with ⟨e1, e2, e3, e4⟩ | ⟨e1, e2⟩
    · have hat' : At B Q g xs.length xs.length row w := by rw [← e1] at hat; exact hat
      refine (push_full B Q g xs.length (2 * xs.length) x row w rfl e3 (by omega) h1 hB hat').mono ?_
      rintro e w' ⟨rfl, hat2, hb⟩
      have hl1 : (xs ++ [x]).length = xs.length + 1 := by simp
      have hat3 : At B Q w.heap.size (ring (xs ++ [x]).length) (xs ++ [x]).length ((splice (zeros (2 * xs.length)) 0 row).set xs.length (Value.int IntKind.i64 x)) w' := by rw [hl1, e2]; exact hat2
      refine ⟨rfl, .inr ⟨by simp, _, _, hat3, set_one (splice_one _ (zeros_one _) h1) _ _, ?_⟩, hb⟩
      refine take_set_snoc x ?_ (by rw [length_splice _ _ _ (by rw [zeros_length, hat'.len]; omega), zeros_length]; omega)
      rw [← ht]
      simp only [splice, List.take_zero, List.nil_append]
      rw [List.take_append_of_le_length (by rw [hat'.len]; exact Nat.le_refl _)]
    · refine (push_room B Q g (ring xs.length) xs.length x row w e1 (by omega) hat).mono ?_
      rintro e w' ⟨rfl, hat2, hb⟩
      have hl1 : (xs ++ [x]).length = xs.length + 1 := by simp
      have hat3 : At B Q g (ring (xs ++ [x]).length) (xs ++ [x]).length (row.set xs.length (Value.int IntKind.i64 x)) w' := by rw [hl1, e2]; exact hat2
      exact ⟨rfl, .inr ⟨by simp, _, _, hat3, set_one h1 _ _, take_set_snoc x ht (by rw [hat.len]; exact e1)⟩, hb⟩
end Go.Proofs.Ybulkacsg.Queue
