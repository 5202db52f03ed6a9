import Derived.Test.Qxb6603421aW8
namespace Go.Proofs.Qxb6603421a
open Go.RowKit
set_option linter.unusedVariables false

/-- What a sort leaves: the keys y at B1, sorted; as they were, where they were sorted. -/
structure Sd (w w' : World) (B1 B2 n m : Nat) (x y t : Nat → Key) : Prop where
  srt : Srt y n
  keep : Srt x n → ∀ j, j < n → y j = x j
  rng : 32 < n → ∀ j, j < n → (y j).1 < 18446744073709551616
  row : Row w' B1 n y
  tmp : Row w' B2 m t
  only : Only (fun k => k = B1 ∨ k = B2) w w'

theorem zz_small (B1 B2 n m : Nat) (x t : Nat → Key) (hn : n ≤ 32) (w : World) (h1 : B1 < w.heap.size) (h2 : B2 < w.heap.size) (hne : B1 ≠ B2) (R : Row w B1 n x) (T : Row w B2 m t) :
    Calls Try.prog 12 #[.slice (some ⟨B1, 0, none⟩) n n, .slice (some ⟨B2, 0, none⟩) m m] w fun e w' => e = .returned (.tuple #[]) ∧ ∃ y t', Sd w w' B1 B2 n m x y t' := by
  go_enter Try.func12, Try.ntmps12
  go_wp2_with (go_at_call 30; refine (ins_any B1 n n (some ⟨B2, 0, none⟩) m m x hn w R).mono ?_; rintro e w' ⟨rfl, y, hs, hI⟩)
  go_end0
  exact ⟨rfl, y, t, hs, hI.keep, fun h => by omega, hI.row, T.only h2 hI.only (Ne.symm hne), hI.only.mono fun k hk => .inl hk⟩

theorem zz_big (B1 B2 n : Nat) (x t : Nat → Key) (hn : 33 ≤ n) (hn2 : n ≤ 32768) (hx : ∀ j, j < n → (x j).1 < 18446744073709551616) (w : World) (h1 : B1 < w.heap.size) (h2 : B2 < w.heap.size) (hne : B1 ≠ B2) (R : Row w B1 n x) (T : Row w B2 n t) :
    Calls Try.prog 12 #[.slice (some ⟨B1, 0, none⟩) n n, .slice (some ⟨B2, 0, none⟩) n n] w fun e w' => e = .returned (.tuple #[]) ∧ ∃ y t', Sd w w' B1 B2 n n x y t' := by
  go_enter Try.func12, Try.ntmps12
  go_wp2_with (go_at_call 30; refine (big_any B1 B2 n x t hn hn2 hx w h1 h2 hne R T).mono ?_; rintro e w' ⟨rfl, y, t', a1, a2, a3, a4, a5, a6⟩)
  go_end0
  exact ⟨rfl, y, t', a1, a2, fun _ => a3, a4, a5, a6⟩

theorem zz_any (B1 B2 n m : Nat) (x t : Nat → Key) (hn2 : n ≤ 32768) (hm : 32 < n → m = n) (hx : 32 < n → ∀ j, j < n → (x j).1 < 18446744073709551616) (w : World) (h1 : B1 < w.heap.size) (h2 : B2 < w.heap.size) (hne : B1 ≠ B2) (R : Row w B1 n x) (T : Row w B2 m t) :
    Calls Try.prog 12 #[.slice (some ⟨B1, 0, none⟩) n n, .slice (some ⟨B2, 0, none⟩) m m] w fun e w' => e = .returned (.tuple #[]) ∧ ∃ y t', Sd w w' B1 B2 n m x y t' := by
  by_cases h : 32 < n
  · obtain rfl := hm h
    exact zz_big B1 B2 m x t (by omega) hn2 (hx h) w h1 h2 hne R T
  · exact zz_small B1 B2 n m x t (by omega) w h1 h2 hne R T

/-- The keys of a slice that came in. -/
def Keys (w : World) (ao : Option Addr) (n : Nat) (x : Nat → Key) : Prop := n = 0 ∨ ∃ b off, ao = some ⟨b, off, none⟩ ∧ Src w b off n x
theorem Keys.below {w w' : World} {ao : Option Addr} {n : Nat} {x : Nat → Key} (h : Keys w ao n x) (hw : Below w.heap.size w w') : Keys w' ao n x := by
  rcases h with h | ⟨b, off, e, h⟩
  · exact .inl h
  · exact .inr ⟨b, off, e, h.below hw⟩
theorem to_all (ao : Option Addr) (n c : Nat) (x : Nat → Key) (hn2 : n ≤ 32768) (w : World) (hS : Keys w ao n x) :
    Calls Try.prog 11 #[.slice ao n c] w fun e w' => e = .returned (.slice (some ⟨w.heap.size, 0, none⟩) n n) ∧ Below w.heap.size w w' ∧ w.heap.size < w'.heap.size ∧ Row w' w.heap.size n x := by
  by_cases h0 : n = 0
  · subst h0
    exact (to_zero ao c w).mono fun e w' ⟨a, b, c, d⟩ => ⟨a, b, c, d x⟩
  · rcases hS with h | ⟨b, off, rfl, h⟩
    · exact absurd h h0
    · exact to_any b off n c x (by omega) hn2 w h
theorem from_all (B n c : Nat) (x : Nat → Key) (hn2 : n ≤ 32768) (w : World) (hB : B < w.heap.size) (hS : Row w B n x) :
    Calls Try.prog 13 #[.slice (some ⟨B, 0, none⟩) n c] w fun e w' => e = .returned (.slice (some ⟨w.heap.size, 0, none⟩) n n) ∧ Below w.heap.size w w' ∧ w.heap.size < w'.heap.size ∧ Row w' w.heap.size n x := by
  by_cases h0 : n = 0
  · subst h0
    exact (from_zero _ c w).mono fun e w' ⟨a, b, c, d⟩ => ⟨a, b, c, d x⟩
  · exact from_any B n c x (by omega) hn2 w hB hS
end Go.Proofs.Qxb6603421a
