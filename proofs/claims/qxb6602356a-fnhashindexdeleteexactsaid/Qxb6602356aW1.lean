import Derived.Test.Qxb6602356aRows
import Derived.Test.Qxb6602356aBits
import Derived.WalkKit
import Derived.WalkSpells
import Derived.WalkLawsBesides
namespace Go.Proofs.Qxb6602356a
open Go.RowKit Hx

theorem ret_bool {a b : Bool} (h : a = b) : Ending.returned (.bool a) = .returned (.bool b) := by rw [h]
theorem ret_int {k : IntKind} {a b : Int} (h : a = b) : Ending.returned (.int k a) = .returned (.int k b) := by rw [h]

/-- n is a power of two, at most 2^16. -/
def P2 (n : Nat) : Prop := ∃ m, m ≤ 16 ∧ n = 2 ^ m
theorem P2.and {n : Nat} (h : P2 n) (x : Int) : bits .and .i64 x ((n : Int) - 1) = x % n := by
  obtain ⟨m, hm, hn⟩ := h
  exact and_mask hm hn x

set_option maxHeartbeats 400000 in
theorem mask_any (x : Nat) (ao : Option Addr) (n c : Nat) (hn : 1 ≤ n) (hn2 : n ≤ 65536) (w : World) (hx : w.cell? ⟨x, 0, none⟩ = some (.slice ao n c)) :
    Calls Try.prog 29 #[.pointer (some ⟨x, 0, none⟩)] w fun e w' => e = .returned (.int .i64 ((n : Int) - 1)) ∧ w = w' := by
  go_enter Try.func29, Try.ntmps29
  go_wp2
  go_ret
  exact ⟨rfl, rfl⟩

set_option maxHeartbeats 400000 in
theorem home_any (x : Nat) (ao : Option Addr) (n c : Nat) (hn : 1 ≤ n) (hn2 : n ≤ 65536) (hp : P2 n) (h : Int) (h0 : 0 ≤ h) (h1 : h ≤ 18446744073709551615) (w : World) (hx : w.cell? ⟨x, 0, none⟩ = some (.slice ao n c)) :
    Calls Try.prog 26 #[.pointer (some ⟨x, 0, none⟩), .int .u64 h] w fun e w' => e = .returned (.int .i64 (hom n h : Nat)) ∧ w = w' := by
  go_enter Try.func26, Try.ntmps26
  go_wp2_with (go_at_call 29; refine (mask_any _ _ _ _ hn hn2 _ hx).mono ?_; rintro e w' ⟨rfl, rfl⟩)
  go_ret
  exact ⟨ret_int (by rw [hp.and, hom_mod (by omega)]), rfl⟩

set_option maxHeartbeats 400000 in
theorem next_any (x : Nat) (ao : Option Addr) (n c : Nat) (hn : 1 ≤ n) (hn2 : n ≤ 65536) (hp : P2 n) (i : Nat) (hi : i < n) (w : World) (hx : w.cell? ⟨x, 0, none⟩ = some (.slice ao n c)) :
    Calls Try.prog 27 #[.pointer (some ⟨x, 0, none⟩), .int .i64 i] w fun e w' => e = .returned (.int .i64 (adv n i 1 : Nat)) ∧ w = w' := by
  go_enter Try.func27, Try.ntmps27
  go_wp2_with (go_at_call 29; refine (mask_any _ _ _ _ hn hn2 _ hx).mono ?_; rintro e w' ⟨rfl, rfl⟩)
  go_ret
  exact ⟨ret_int (by rw [hp.and]; exact adv_mod hi (by omega)), rfl⟩

theorem less_ne {a b c d : Int} (h : (a != c) = true) : decide (a < c) = !le2 (c, d) (a, b) := by
  rw [Bool.eq_iff_iff]; simp [le2] at h ⊢; omega
theorem less_eq {a b c d : Int} (h : (a != c) = false) : decide (b < d) = !le2 (c, d) (a, b) := by
  rw [Bool.eq_iff_iff]; simp [le2] at h ⊢; omega

set_option maxHeartbeats 400000 in
theorem less_any (a b c d : Int) (w : World) :
    Calls Try.prog 30 #[.agg #[.int .u64 a, .int .i64 b], .agg #[.int .u64 c, .int .i64 d]] w fun e w' => e = .returned (.bool (!le2 (c, d) (a, b))) ∧ Below w.heap.size w w' := by
  go_enter Try.func30, Try.ntmps30
  go_wp2
  all_goals
    go_ret
    first
      | exact ⟨ret_bool (less_ne ‹_›), (((Below.refl _ _).alloc (Nat.le_refl _) _).alloc (by simp) _)⟩
      | exact ⟨ret_bool (less_eq ‹_›), (((Below.refl _ _).alloc (Nat.le_refl _) _).alloc (by simp) _)⟩

def okLen (n m : Nat) : Bool := decide (n + m ≤ 1048576)
set_option maxHeartbeats 400000 in
theorem bytes_any (ao bo : Option Addr) (n c m d : Nat) (t : Int) (u v : Int) (q : Int) (hn : n ≤ maxLen) (hm : m ≤ maxLen) (w : World) :
    Calls Try.prog 16 #[.slice ao n c, .slice bo m d, .int .i64 t, .int .u64 u, .int .u64 v, .int .i64 q] w fun e w' => e = .returned (.bool (okLen n m)) ∧ w = w' := by
  unfold maxLen at hn hm
  go_enter Try.func16, Try.ntmps16
  go_wp2
  all_goals
    go_ret
    first
      | exact ⟨ret_bool (decide_eq_false (by omega)).symm, rfl⟩
      | exact ⟨ret_bool (decide_eq_true (by omega)).symm, rfl⟩
end Go.Proofs.Qxb6602356a
