import Derived.Test.Qxb6603421aW2
import Derived.Deep.RegionWith
namespace Go.Proofs.Qxb6603421a
open Go.RowKit
set_option linter.unusedVariables false

set_option maxHeartbeats 1000000 in
theorem to_any (b off n c : Nat) (x : Nat → Key) (hn : 1 ≤ n) (hn2 : n ≤ 32768) (w : World) (hS : Src w b off n x) :
    Calls Try.prog 11 #[.slice (some ⟨b, off, none⟩) n c] w fun e w' => e = .returned (.slice (some ⟨w.heap.size, 0, none⟩) n n) ∧ Below w.heap.size w w' ∧ w.heap.size < w'.heap.size ∧ Row w' w.heap.size n x := by
  obtain ⟨C, hC, hmk⟩ := make_pairs Try.underlying24 info57 n (by omega)
  have HC := (show Hid _ from hC)
  have HS := (show Hid _ from hS)
  clear hC hS
  go_enter Try.func11, Try.ntmps11
  go_wp2_with fail
  go_loopg [4] n (fun g i ww => ∃ k : Nat, k + g = n ∧ i = .int .i64 k ∧ Row ww w.heap.size n (pre k x) ∧ Below w.heap.size w ww ∧ w.heap.size < ww.heap.size)
  case atStart => exact ⟨0, by omega, rfl, row_start w C 57 n x HC.out, (Below.refl _ _).alloc (Nat.le_refl _) _, by simp⟩
  case round =>
    obtain ⟨k, hk, rfl, hR, hW, hz⟩ := hrel
    have S1 := HS.out.below hW
    have HR := (show Hid _ from hR)
    have HW := (show Hid _ from hW)
    clear hR hW
    by_cases hlt : k < n
    · have c1 := S1.ws k hlt
      have c2 := S1.ats k hlt
      clear S1
      obtain ⟨v, hv⟩ : ∃ v, v = (((x k).1 : Nat) : Int) := ⟨_, rfl⟩
      obtain ⟨q, hq⟩ : ∃ q, q = (x k).2 := ⟨_, rfl⟩
      rw [← hv] at c1
      rw [← hq] at c2
      have HV := (show Hid _ from hv)
      have HQ := (show Hid _ from hq)
      clear hv hq
      go_wp2_with fail
      go_region_with (go_at_call 29; refine (key_any v q _).mono ?_; rintro e w' ⟨rfl, hb⟩; have R1 := HR.out.drew.below hz hb; have c3 := R1.ws k hlt; have c4 := R1.ats k hlt; have f3 := R1.free (k * 2); have f4 := R1.free (k * 2 + 1); have HR1 := (show Hid _ from R1); have HB1 : Hid (Below wr.heap.size wr w') := (Below.refl _ _).drew.trans hb; clear R1 hb)
      all_goals
        go_wp2_with fail
        go_roundg (gk - 1)
        case measure => omega
        case rel =>
          have T2 := HR1.out.set hlt (x k) HV.out HQ.out
          rw [pre_next] at T2
          have hz1 := HB1.out.size
          exact ⟨k + 1, by omega, by go_num, T2, (HW.out.trans (HB1.out.mono (by omega))).setCell (Nat.le_refl _) _ |>.setCell (Nat.le_refl _) _, by simp [World.setCell]; omega⟩
    · clear S1
      go_wp2_with fail
      go_ret
      exact ⟨rfl, HW.out, hz, HR.out.congr (fun j hj => by simp [pre, show j < k by omega])⟩
end Go.Proofs.Qxb6603421a
