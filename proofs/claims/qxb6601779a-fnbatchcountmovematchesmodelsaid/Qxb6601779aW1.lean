import Derived.Test.Qxb6601779aRows
import Derived.WalkKit
import Derived.WalkSpells
import Derived.WalkLawsBesides
import Derived.ChangeKeysEq
namespace Go.Proofs.Qxb6601779a
open Go.RowKit

/-- The place of the counter that a state's name (its bytes) names; -1: none. -/
def stIdx (l : List UInt8) : Int :=
  if (l == [113, 117, 101, 117, 101, 100]) = true then 0
  else if (l == [114, 117, 110, 110, 105, 110, 103]) = true then 1
  else if (l == [104, 101, 108, 100]) = true then 2
  else if (l == [100, 111, 110, 101]) = true then 3
  else if (l == [102, 97, 105, 108, 101, 100]) = true then 4
  else if (l == [97, 98, 111, 114, 116, 101, 100]) = true then 5
  else if (l == [99, 97, 110, 99, 101, 108, 108, 101, 100]) = true then 6
  else -1

theorem stIdx_range (l : List UInt8) : stIdx l = -1 ∨ (0 ≤ stIdx l ∧ stIdx l ≤ 6) := by
  unfold stIdx
  repeat' split
  all_goals omega

theorem ret_bool {a b : Bool} (h : a = b) : Ending.returned (.bool b) = .returned (.bool a) := by rw [h]
theorem ret_int {k : IntKind} {a b : Int} (h : a = b) : Ending.returned (.int k a) = .returned (.int k b) := by rw [h]
theorem ret_cell {b : Nat} {i j : Nat} (h : i = j) : Ending.returned (.pointer (some ⟨b, i, none⟩)) = .returned (.pointer (some ⟨b, j, none⟩)) := by rw [h]

def okLen (s t : ByteArray) : Bool := decide (s.size + t.size ≤ 1048576)

set_option maxHeartbeats 400000 in
theorem bytes_any (a0 a1 a2 a3 a4 a5 a6 a7 : Int) (s t : ByteArray) (hs : s.size ≤ maxLen) (ht : t.size ≤ maxLen) (w : World) :
    Calls Try.prog 21 #[.int .i64 a0, .int .i64 a1, .int .i64 a2, .int .i64 a3, .int .i64 a4, .int .i64 a5, .int .i64 a6, .int .i64 a7, .string s, .string t] w fun e w' => e = .returned (.bool (okLen s t)) ∧ w = w' := by
  unfold maxLen at hs ht
  go_enter Try.func21, Try.ntmps21
  go_wp2
  all_goals
    go_ret
    first
      | exact ⟨ret_bool (b := false) (decide_eq_false (by omega)), rfl⟩
      | exact ⟨ret_bool (b := true) (decide_eq_true (by omega)), rfl⟩

set_option maxHeartbeats 400000 in
theorem idx_any (s : ByteArray) (w : World) :
    Calls Try.prog 22 #[.string s] w fun e w' => e = .returned (.int .i64 (stIdx s.toList)) ∧ w = w' := by
  go_enter Try.func22, Try.ntmps22
  go_wp2
  all_goals
    go_ret
    refine ⟨?_, rfl⟩
    simp only [stIdx, *]
    rfl

set_option maxHeartbeats 400000 in
theorem count_any (b : Nat) (s : ByteArray) (w : World) (h : 0 ≤ stIdx s.toList) :
    Calls Try.prog 23 #[.pointer (some ⟨b, 0, none⟩), .string s] w fun e w' => e = .returned (.pointer (some ⟨b, 8 + (stIdx s.toList).toNat, none⟩)) ∧ w = w' := by
  have H : Hid (0 ≤ stIdx s.toList) := h
  clear h
  go_enter Try.func23, Try.ntmps23
  go_wp2
  all_goals first
    | (go_ret
       refine ⟨?_, rfl⟩
       simp only [stIdx, *]
       rfl)
    | (exfalso
       have h := H.out
       simp only [stIdx, *] at h
       revert h
       decide)

theorem info3 : (Try.prog.info? 3).map (fun i => (i.zero, i.size, i.bytes)) = some (some (.int .i64 0), 1, 8) := by kernel_rfl
theorem cells3 : Try.prog.cellsOf 3 = 1 := by kernel_rfl
theorem guard33 : Try.prog.eqGuardType Try.prog.depth 33 = false := by kernel_rfl

theorem eq7 (q0 q1 q2 q3 q4 q5 q6 : Int) (w : World) : (Op.equalIn 10000 33 (.agg #[.int .i64 q0, .int .i64 q1, .int .i64 q2, .int .i64 q3, .int .i64 q4, .int .i64 q5, .int .i64 q6]) (.agg #[.int .i64 q0, .int .i64 q1, .int .i64 q2, .int .i64 q3, .int .i64 q4, .int .i64 q5, .int .i64 q6])).run Try.prog w = .ok true w := by
  obtain ⟨i0, hi, hz0, hz1, hz2⟩ := info_parts info3
  rw [run_equalIn_array w 9999 _ _ Try.underlying33 hi, cells3]
  simp [Op.eqItems, List.range, List.range.loop, go_sem]

theorem cells_at (w : World) (q0 q1 q2 q3 q4 q5 q6 a7 : Int) (k : Nat) (hk : k < 7) :
    ∃ v : Int, (((w.alloc (.cells #[.int .i64 q0, .int .i64 q1, .int .i64 q2, .int .i64 q3, .int .i64 q4, .int .i64 q5, .int .i64 q6] 33)).alloc (.cells #[.int .i64 0, .string { data := #[] }, .pointer none, .string { data := #[] }, .bool false, .pointer none, .pointer none, .int .i64 a7, .int .i64 q0, .int .i64 q1, .int .i64 q2, .int .i64 q3, .int .i64 q4, .int .i64 q5, .int .i64 q6, .float .f64 0] 40)).alloc (.cells #[.int .i64 q0, .int .i64 q1, .int .i64 q2, .int .i64 q3, .int .i64 q4, .int .i64 q5, .int .i64 q6] 33)).drew.cell? ⟨w.heap.size, k, none⟩ = some (.int .i64 v) ∧
      (((w.alloc (.cells #[.int .i64 q0, .int .i64 q1, .int .i64 q2, .int .i64 q3, .int .i64 q4, .int .i64 q5, .int .i64 q6] 33)).alloc (.cells #[.int .i64 0, .string { data := #[] }, .pointer none, .string { data := #[] }, .bool false, .pointer none, .pointer none, .int .i64 a7, .int .i64 q0, .int .i64 q1, .int .i64 q2, .int .i64 q3, .int .i64 q4, .int .i64 q5, .int .i64 q6, .float .f64 0] 40)).alloc (.cells #[.int .i64 q0, .int .i64 q1, .int .i64 q2, .int .i64 q3, .int .i64 q4, .int .i64 q5, .int .i64 q6] 33)).drew.cell? ⟨w.heap.size + 1, 8 + k, none⟩ = some (.int .i64 v) := by
  rcases (show k = 0 ∨ k = 1 ∨ k = 2 ∨ k = 3 ∨ k = 4 ∨ k = 5 ∨ k = 6 by omega) with rfl | rfl | rfl | rfl | rfl | rfl | rfl
  all_goals go_simp

end Go.Proofs.Qxb6601779a
