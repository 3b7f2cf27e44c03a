import Derived.Test.YbulkacvmGot
import Derived.Laws.BytesArg
namespace Go.Proofs.Ybulkacvm.Big
open Go.RowKit

/-- n bytes z as a string. -/
def str (z : Nat → Int) (n : Nat) : ByteArray := strOfNums ((List.range n).map z)

theorem conv_some (w : World) (ad : Addr) (n c : Nat) (z : Nat → Int) (hc : ∀ j, j < n → w.cell? (ad.add j) = some (B z j)) :
    (convert 22 9 (.slice (some ad) n c)).run Yba.prog w = .ok (.string (str z n)) w := by
  have hl := run_loadCells_list (P := Yba.prog) w ad (((List.range n).map z).map (Value.int .u8)) (fun j v hj => by
    have hj' : j < n := by
      have := (List.getElem?_eq_some_iff.1 hj).1
      simpa using this
    rw [hc j hj']
    simp [hj'] at hj
    rw [← hj]; rfl)
  simp only [List.length_map, List.length_range] at hl
  rw [run_convert_bytes_string w 22 9 5 (some ad) n c Yba.underlying22 Yba.underlying5 Yba.underlying9, run_bytesToString w ad n c _ hl, foldl_push_bytes]
  simp [str, strOfNums, ByteArray.empty, ByteArray.emptyWithCapacity]
  rfl

theorem conv_nil (w : World) (z : Nat → Int) : (convert 22 9 (.slice none 0 0)).run Yba.prog w = .ok (.string (str z 0)) w := by
  rw [run_convert_bytes_nil w 22 5 Yba.underlying22 Yba.underlying5 0 0 9 Yba.underlying9]
  rfl

set_option maxRecDepth 100000 in
theorem equal_any (V1 V2 : Value) (s : ByteArray) (w : World) (h1 : (convert 22 9 V1).run Yba.prog w = .ok (.string s) w) (h2 : (convert 22 9 V2).run Yba.prog w = .ok (.string s) w) :
    Calls Yba.prog 8 #[V1, V2] w fun e w' => e = .returned (.bool true) ∧ w = w' := by
  go_enter Yba.func8, Yba.ntmps8
  go_wp2
  go_ret
  exact ⟨by simp, rfl⟩
end Go.Proofs.Ybulkacvm.Big
