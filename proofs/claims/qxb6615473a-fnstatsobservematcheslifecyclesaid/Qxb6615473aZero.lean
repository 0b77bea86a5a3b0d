import Derived.Test.Qxb6615473aScript
namespace Go.Proofs.Qxb6615473a
open Go.RowKit Go.Maps
set_option linter.unusedVariables false

def zHead : List Value := [.int .i32 0, .int .u32 0, .map none, .int .i64 0, .int .i64 0, .int .i64 0, .int .i64 0, .int .i64 0, .map none, .map none, .int .i64 0, .int .i64 0, .int .i64 0, .int .i64 0]
theorem zc50 : Try.zeroCells50 = (zHead ++ List.replicate 1888 (Value.int .i64 0)).toArray := by kernel_rfl
theorem zlen : (zHead ++ List.replicate 1888 (Value.int .i64 0)).toArray.size = 1902 := by
  rw [List.size_toArray, List.length_append, List.length_replicate]; rfl
theorem zleft (k : Nat) (h : k < 14) : (zHead ++ List.replicate 1888 (Value.int .i64 0))[k]? = zHead[k]? := List.getElem?_append_left h
/-- The zero collector's cells. -/
theorem zero_row (w : World) : RowAt (w.alloc (.cells Try.zeroCells50 50)) w.heap.size 50 1902 (cellsOf 0 stZero (.map none) (.map none) (.map none)) := by
  refine ⟨Try.zeroCells50, heap_alloc_new w _, by rw [zc50]; exact zlen, fun k hk => ?_⟩
  rw [zc50, List.getElem?_toArray]
  rcases Nat.lt_or_ge k 14 with h | h
  · rw [zleft k h]
    have : k = 0 ∨ k = 1 ∨ k = 2 ∨ k = 3 ∨ k = 4 ∨ k = 5 ∨ k = 6 ∨ k = 7 ∨ k = 8 ∨ k = 9 ∨ k = 10 ∨ k = 11 ∨ k = 12 ∨ k = 13 := by omega
    rcases this with rfl | rfl | rfl | rfl | rfl | rfl | rfl | rfl | rfl | rfl | rfl | rfl | rfl | rfl <;> rfl
  · rw [List.getElem?_append_right (by simpa [zHead] using h), List.getElem?_replicate, if_pos (by simp [zHead]; omega)]
    unfold cellsOf
    simp only [show k ≠ 0 by omega, show k ≠ 1 by omega, show k ≠ 2 by omega, show ¬ k < 6 by omega, show k ≠ 6 by omega, show k ≠ 7 by omega, show k ≠ 8 by omega, show k ≠ 9 by omega, show k ≠ 10 by omega, show k ≠ 11 by omega, show k ≠ 12 by omega, show k ≠ 13 by omega, if_false]
    rfl
end Go.Proofs.Qxb6615473a
