import Derived.Test.Qxb6603421aW9
namespace Go.Proofs.Qxb6603421a
open Go.RowKit
set_option linter.unusedVariables false

theorem main_long (ao bo : Option Addr) (n c m d : Nat) (hn : n ≤ maxLen) (hm : m ≤ maxLen) (w : World) (h : okLen n m = false) :
    Calls Try.prog 4 #[.slice ao n c, .slice bo m d] w fun e w' => e = .returned (.bool true) ∧ Below w.heap.size w w' := by
  go_enter Try.func4, Try.ntmps4
  go_wp2_with (go_at_call 16; refine (bytes_any _ _ _ _ _ _ hn hm _).mono ?_; rintro e w' ⟨rfl, rfl⟩)
  go_ret
  exact ⟨rfl, Below.refl _ _⟩

theorem main_wide (ao bo : Option Addr) (n c m d : Nat) (hn : n ≤ maxLen) (hm : m ≤ maxLen) (w : World) (h : okLen n m = true) (hw : 32768 < n ∨ (n ≤ 32768 ∧ 32768 < m)) :
    Calls Try.prog 4 #[.slice ao n c, .slice bo m d] w fun e w' => e = .returned (.bool true) ∧ Below w.heap.size w w' := by
  rcases hw with h1 | ⟨h1, h2⟩
  all_goals
    go_enter Try.func4, Try.ntmps4
    go_wp2_with (go_at_call 16; refine (bytes_any _ _ _ _ _ _ hn hm _).mono ?_; rintro e w' ⟨rfl, rfl⟩)
    go_ret
    exact ⟨rfl, Below.refl _ _⟩

theorem main_ne (ao bo : Option Addr) (n c m d : Nat) (hn : n ≤ 32768) (hm : m ≤ 32768) (w : World) (hw : 32 < n) (hne : m ≠ n) :
    Calls Try.prog 4 #[.slice ao n c, .slice bo m d] w fun e w' => e = .returned (.bool true) ∧ Below w.heap.size w w' := by
  have hok : okLen n m = true := decide_eq_true (by omega)
  have h3 : ((m : Int) != (n : Int)) = true := by simp; omega
  go_enter Try.func4, Try.ntmps4
  go_wp2_with (go_at_call 16; refine (bytes_any _ _ _ _ _ _ (by unfold maxLen; omega) (by unfold maxLen; omega) _).mono ?_; rintro e w' ⟨rfl, rfl⟩)
  go_ret
  exact ⟨rfl, Below.refl _ _⟩
end Go.Proofs.Qxb6603421a
