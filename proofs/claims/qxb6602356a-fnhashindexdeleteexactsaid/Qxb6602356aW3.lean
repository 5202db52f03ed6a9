import Derived.Test.Qxb6602356aW2
namespace Go.Proofs.Qxb6602356a
open Go.RowKit Hx
set_option linter.unusedVariables false

set_option maxHeartbeats 1000000 in
theorem valid_any (b off b2 off2 n c c2 : Nat) (count : Int) (h p : Nat → Int) (hn : 1 ≤ n) (hn2 : n ≤ 65536) (w : World)
    (hH : ∀ j, j < n → w.cell? ⟨b, off + j, none⟩ = some (.int .u64 (h j))) (hP : ∀ j, j < n → w.cell? ⟨b2, off2 + j, none⟩ = some (.int .i64 (p j)))
    (hB : ∀ j, j < n → 0 ≤ h j ∧ h j ≤ 18446744073709551615) :
    Calls Try.prog 9 #[.slice (some ⟨b, off, none⟩) n c, .slice (some ⟨b2, off2, none⟩) n c2, .int .i64 count] w fun e w' => Says (VB n h p count) e ∧ w = w' := by
  by_cases h1 : n < 16
  · exact valid_small b off b2 off2 n c c2 count h p hn hn2 (.inl h1) w
  · by_cases h2 : bits .and .i64 (n : Int) ((n : Int) - 1) = 0
    · exact valid_big b off b2 off2 n c c2 count h p (by omega) hn2 (pow_two n hn hn2 h2) w hH hP hB
    · exact valid_small b off b2 off2 n c c2 count h p hn hn2 (.inr ⟨by omega, h2⟩) w

theorem no_next {h p : Nat → Int} {hh pp : Int} {k : Nat} (H : ∀ j, j < k → ¬ (h j = hh ∧ p j = pp)) (hk : ¬ (h k = hh ∧ p k = pp)) : ∀ j, j < k + 1 → ¬ (h j = hh ∧ p j = pp) := fun j hj => by
  by_cases hjk : j = k
  · rw [hjk]; exact hk
  · exact H j (by omega)

/-- What holdsHiB1 answers. -/
def HB (n : Nat) (h p : Nat → Int) (hh pp : Int) (b : Bool) : Prop := b = true ↔ ∃ i, i < n ∧ h i = hh ∧ p i = pp

set_option maxHeartbeats 1000000 in
theorem holds_zero (ao bo : Option Addr) (c d : Nat) (hh pp : Int) (w : World) :
    Calls Try.prog 17 #[.slice ao 0 c, .slice bo 0 d, .int .u64 hh, .int .i64 pp] w fun e w' => e = .returned (.bool false) ∧ w = w' := by
  go_enter Try.func17, Try.ntmps17
  go_wp2_with fail
  refine wp_loop_rounds 1 ?_
  rw [rounds_succ]
  go_wp2_with fail
  go_ret
  exact ⟨rfl, rfl⟩

set_option maxHeartbeats 1000000 in
theorem holds_any (b off b2 off2 n c c2 : Nat) (h p : Nat → Int) (hh pp : Int) (hn : 1 ≤ n) (hn2 : n ≤ 65536) (w : World)
    (hH : ∀ j, j < n → w.cell? ⟨b, off + j, none⟩ = some (.int .u64 (h j))) (hP : ∀ j, j < n → w.cell? ⟨b2, off2 + j, none⟩ = some (.int .i64 (p j))) :
    Calls Try.prog 17 #[.slice (some ⟨b, off, none⟩) n c, .slice (some ⟨b2, off2, none⟩) n c2, .int .u64 hh, .int .i64 pp] w fun e w' => Says (HB n h p hh pp) e ∧ w = w' := by
  have HH := (show Hid _ from hH)
  have HP := (show Hid _ from hP)
  clear hH hP
  go_enter Try.func17, Try.ntmps17
  go_wp2_with fail
  go_loop [9] (fun i => ∃ k : Nat, k ≤ n ∧ i = .int .i64 k ∧ ∀ j, j < k → ¬ (h j = hh ∧ p j = pp)) (fun i => n - (intOf i).toNat)
  case atStart => exact ⟨0, by omega, rfl, fun j hj => by omega⟩
  case round =>
    obtain ⟨k, hk, rfl, hno⟩ := hrel
    have HN := (show Hid _ from hno)
    clear hno
    by_cases hlt : k < n
    · have c1 := HH.out k hlt
      have c2' := HP.out k hlt
      obtain ⟨v, hv⟩ : ∃ v, v = h k := ⟨_, rfl⟩
      obtain ⟨q, hq⟩ : ∃ q, q = p k := ⟨_, rfl⟩
      rw [← hv] at c1
      rw [← hq] at c2'
      have HV := (show Hid _ from hv)
      have HQ := (show Hid _ from hq)
      clear hv hq
      by_cases e1 : (v == hh) = true
      · by_cases e2 : (q == pp) = true
        · go_wp2_with fail
          go_ret
          exact ⟨⟨true, rfl, fun _ => ⟨k, hlt, by rw [← HV.out]; simpa using e1, by rw [← HQ.out]; simpa using e2⟩, fun _ => rfl⟩, rfl⟩
        · have e2' : (q == pp) = false := by simpa using e2
          clear e2
          go_wp2_with fail
          go_round
          case rel => exact ⟨k + 1, by omega, by go_num, no_next HN.out fun hx => by rw [← HV.out, ← HQ.out] at hx; simp [hx.2] at e2'⟩
          case measure => simp [intOf]; omega
      · have e1' : (v == hh) = false := by simpa using e1
        clear e1
        go_wp2_with fail
        go_round
        case rel => exact ⟨k + 1, by omega, by go_num, no_next HN.out fun hx => by rw [← HV.out, ← HQ.out] at hx; simp [hx.1] at e1'⟩
        case measure => simp [intOf]; omega
    · go_wp2_with fail
      go_ret
      refine ⟨⟨false, rfl, fun h => absurd h Bool.false_ne_true, fun ⟨i, hi, hx⟩ => absurd hx (HN.out i (by omega))⟩, rfl⟩
end Go.Proofs.Qxb6602356a
