import Derived.Test.Qxb6602356aW10
namespace Go.Proofs.Qxb6602356a
open Go.RowKit Hx
set_option linter.unusedVariables false

set_option maxHeartbeats 1000000 in
set_option maxRecDepth 100000 in
theorem main_long (ao bo : Option Addr) (n c m d : Nat) (t : Int) (u v q : Int) (hn : n ≤ maxLen) (hm : m ≤ maxLen) (w : World) (h : okLen n m = false) :
    Calls Try.prog 4 #[.slice ao n c, .slice bo m d, .int .i64 t, .int .u64 u, .int .u64 v, .int .i64 q] w fun e w' => e = .returned (.bool true) ∧ Below w.heap.size w w' := by
  go_enter Try.func4, Try.ntmps4
  go_wp2_with (go_at_call 16; refine (bytes_any _ _ _ _ _ _ _ _ _ _ hn hm _).mono ?_; rintro e w' ⟨rfl, rfl⟩)
  go_ret
  exact ⟨rfl, Below.refl _ _⟩

set_option maxHeartbeats 1000000 in
set_option maxRecDepth 100000 in
theorem main_wide (ao bo : Option Addr) (n c m d : Nat) (t : Int) (u v q : Int) (hn : n ≤ maxLen) (hm : m ≤ maxLen) (w : World) (h : okLen n m = true) (hw : 65536 < n ∨ (n ≤ 65536 ∧ 65536 < m)) :
    Calls Try.prog 4 #[.slice ao n c, .slice bo m d, .int .i64 t, .int .u64 u, .int .u64 v, .int .i64 q] w fun e w' => e = .returned (.bool true) ∧ Below w.heap.size w w' := by
  have hl : n + m ≤ 1048576 := of_decide_eq_true h
  rcases hw with hw | ⟨hw1, hw⟩
  all_goals
    go_enter Try.func4, Try.ntmps4
    go_wp2_with (go_at_call 16; refine (bytes_any _ _ _ _ _ _ _ _ _ _ hn hm _).mono ?_; rintro e w' ⟨rfl, rfl⟩)
    go_ret
    exact ⟨rfl, Below.refl _ _⟩

set_option maxHeartbeats 1000000 in
set_option maxRecDepth 100000 in
theorem main_ne (ao bo : Option Addr) (n c m d : Nat) (t : Int) (u v q : Int) (hn : n ≤ 65536) (hm : m ≤ 65536) (w : World) (hne : m ≠ n) :
    Calls Try.prog 4 #[.slice ao n c, .slice bo m d, .int .i64 t, .int .u64 u, .int .u64 v, .int .i64 q] w fun e w' => e = .returned (.bool true) ∧ Below w.heap.size w w' := by
  have hok : okLen n m = true := decide_eq_true (by omega)
  go_enter Try.func4, Try.ntmps4
  go_wp2_with (first
    | (go_at_call 16; refine (bytes_any _ _ _ _ _ _ _ _ _ _ (by unfold maxLen; omega) (by unfold maxLen; omega) _).mono ?_; rintro e w' ⟨rfl, rfl⟩)
    | (go_at_call 9; refine (valid_ne _ _ _ _ _ _ _ (by unfold maxLen; omega) (by unfold maxLen; omega) hne _).mono ?_; rintro e w' ⟨rfl, rfl⟩))
  go_ret
  exact ⟨rfl, Below.refl _ _⟩

theorem mk22 (w : World) : (Instr.makeSlice 22 (.int .i64 0) (.int .i64 0)).run Try.prog w = .ok (.slice (some ⟨w.heap.size, 0, none⟩) 0 0) (w.alloc (.cells #[] 24)) := by
  obtain ⟨i, hi', hz, hs, hb⟩ := info_parts info24
  have hr := run_make (P := Try.prog) w 22 24 i _ Try.underlying22 hi' hz .i64 .i64 0 0 (by omega) (by omega) (by rw [hb]; omega) (by omega)
  have e : madeCells (Value.int IntKind.u64 0).cells (Int.toNat 0 * 1) = #[] := by kernel_rfl
  rw [hs, e] at hr
  exact hr
theorem mk23 (w : World) : (Instr.makeSlice 23 (.int .i64 0) (.int .i64 0)).run Try.prog w = .ok (.slice (some ⟨w.heap.size, 0, none⟩) 0 0) (w.alloc (.cells #[] 3)) := by
  obtain ⟨i, hi', hz, hs, hb⟩ := info_parts info3
  have hr := run_make (P := Try.prog) w 23 3 i _ Try.underlying23 hi' hz .i64 .i64 0 0 (by omega) (by omega) (by rw [hb]; omega) (by omega)
  have e : madeCells (Value.int IntKind.i64 0).cells (Int.toNat 0 * 1) = #[] := by kernel_rfl
  rw [hs, e] at hr
  exact hr

set_option maxHeartbeats 2000000 in
set_option maxRecDepth 100000 in
theorem main_zero (ao bo : Option Addr) (c d : Nat) (t : Int) (hq : Int) (u q : Int) (w : World) :
    Calls Try.prog 4 #[.slice ao 0 c, .slice bo 0 d, .int .i64 t, .int .u64 u, .int .u64 hq, .int .i64 q] w fun e w' => e = .returned (.bool true) ∧ Below w.heap.size w w' := by
  have hok : okLen 0 0 = true := decide_eq_true (by omega)
  have m22 := mk22
  have m23 := mk23
  have k22 : ∀ (w : World) (dp sp : Option Addr) (c d : Nat), (Builtin.copy_ #[22, 22] 3 #[.slice dp 0 d, .slice sp 0 c]).run Try.prog w = .ok (goInt 0) w := fun w dp sp c d => run_copy_none (P := Try.prog) w 22 22 3 24 dp sp 0 d 0 c Try.underlying22 size24 rfl
  have k23 : ∀ (w : World) (dp sp : Option Addr) (c d : Nat), (Builtin.copy_ #[23, 23] 3 #[.slice dp 0 d, .slice sp 0 c]).run Try.prog w = .ok (goInt 0) w := fun w dp sp c d => run_copy_none (P := Try.prog) w 23 23 3 3 dp sp 0 d 0 c Try.underlying23 size3 rfl
  go_enter Try.func4, Try.ntmps4
  go_upto_if 53 with (first
    | (go_at_call 16; refine (bytes_any _ _ _ _ _ _ _ _ _ _ (by unfold maxLen; omega) (by unfold maxLen; omega) _).mono ?_; rintro e w' ⟨rfl, rfl⟩)
    | (go_at_call 9; refine (valid_zero _ _ _ _ _ _).mono ?_; rintro e w' ⟨⟨r, rfl, hr⟩, rfl⟩))
  cases r with
  | false =>
    go_wp2_with fail
    go_ret
    exact ⟨rfl, Below.refl _ _⟩
  | true =>
    clear hr
    cases ao <;> cases bo
    all_goals
      go_wp2_with (go_at_call 17; refine (holds_zero _ _ _ _ _ _ _).mono ?_; rintro e w' ⟨rfl, rfl⟩)
      go_ret
      refine ⟨rfl, ?_⟩
      first
        | exact Below.refl _ _
        | exact (Below.refl _ _).alloc (Nat.le_refl _) _
        | exact ((Below.refl _ _).alloc (Nat.le_refl _) _).alloc (by simp) _
end Go.Proofs.Qxb6602356a
