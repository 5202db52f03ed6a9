import Derived.Test.Qxb6603421aW4
namespace Go.Proofs.Qxb6603421a
open Go.RowKit
set_option linter.unusedVariables false

set_option maxHeartbeats 2000000 in
theorem same_any (B1 B2 n c1 c2 : Nat) (x : Nat → Key) (hn2 : n ≤ 32768) (w : World) (R1 : Row w B1 n x) (R2 : Row w B2 n x) :
    Calls Try.prog 14 #[.slice (some ⟨B1, 0, none⟩) n c1, .slice (some ⟨B2, 0, none⟩) n c2] w fun e w' => e = .returned (.bool true) ∧ Below w.heap.size w w' := by
  have H1 := (show Hid _ from R1)
  have H2 := (show Hid _ from R2)
  clear R1 R2
  go_enter Try.func14, Try.ntmps14
  go_wp2_with fail
  go_loopg [5] n (fun g i ww => ∃ k m : Nat, k + g = n ∧ i = .int .i64 k ∧ ww = w.drewN m)
  case atStart => exact ⟨0, 0, by omega, rfl, rfl⟩
  case round =>
    obtain ⟨k, m, hk, rfl, rfl⟩ := hrel
    by_cases hlt : k < n
    · have d1 := H1.out.ws k hlt
      have d2 := H1.out.ats k hlt
      have d3 := H2.out.ws k hlt
      have d4 := H2.out.ats k hlt
      obtain ⟨v, hv⟩ : ∃ v, v = (((x k).1 : Nat) : Int) := ⟨_, rfl⟩
      obtain ⟨q, hq⟩ : ∃ q, q = (x k).2 := ⟨_, rfl⟩
      rw [← hv] at d1 d3
      rw [← hq] at d2 d4
      clear hv hq
      go_wp2_with fail
      go_quiet (fail)
      go_wp2_with fail
      go_roundg (gk - 1)
      case measure => omega
      case rel => exact ⟨k + 1, _, by omega, by go_num, rfl⟩
    · go_wp2_with fail
      go_ret
      exact ⟨rfl, below_drewN (Below.refl _ _) _⟩
end Go.Proofs.Qxb6603421a
