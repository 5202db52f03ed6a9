import Derived.Test.Qxb6603421aW3
namespace Go.Proofs.Qxb6603421a
open Go.RowKit
set_option linter.unusedVariables false

set_option maxHeartbeats 1000000 in
theorem from_zero (ao : Option Addr) (c : Nat) (w : World) :
    Calls Try.prog 13 #[.slice ao 0 c] w fun e w' => e = .returned (.slice (some ⟨w.heap.size, 0, none⟩) 0 0) ∧ Below w.heap.size w w' ∧ w.heap.size < w'.heap.size ∧ ∀ x, Row w' w.heap.size 0 x := by
  obtain ⟨C, hC, hmk⟩ := make_pairs Try.underlying22 info60 0 (by omega)
  have hmk0 : ∀ w, (Instr.makeSlice 22 (.int .i64 0) (.int .i64 0)).run Try.prog w = .ok (.slice (some ⟨w.heap.size, 0, none⟩) 0 0) (w.alloc (.cells C 60)) := hmk
  clear hmk hC
  go_enter Try.func13, Try.ntmps13
  go_wp2_with fail
  go_loopg [4] 0 (fun g i ww => i = .int .i64 0 ∧ ww = w.alloc (.cells C 60))
  case atStart => exact ⟨rfl, rfl⟩
  case round =>
    obtain ⟨rfl, rfl⟩ := hrel
    go_wp2_with fail
    go_ret
    exact ⟨rfl, (Below.refl _ _).alloc (Nat.le_refl _) _, by simp, fun x => ⟨fun j hj => by omega, fun j hj => by omega, fun o => by go_simp⟩⟩

set_option maxHeartbeats 2000000 in
theorem from_any (B n c : Nat) (x : Nat → Key) (hn : 1 ≤ n) (hn2 : n ≤ 32768) (w : World) (hB : B < w.heap.size) (hS : Row w B n x) :
    Calls Try.prog 13 #[.slice (some ⟨B, 0, none⟩) n c] w fun e w' => e = .returned (.slice (some ⟨w.heap.size, 0, none⟩) n n) ∧ Below w.heap.size w w' ∧ w.heap.size < w'.heap.size ∧ Row w' w.heap.size n x := by
  obtain ⟨C, hC, hmk⟩ := make_pairs Try.underlying22 info60 n (by omega)
  have HC := (show Hid _ from hC)
  have HS := (show Hid _ from hS)
  clear hC hS
  go_enter Try.func13, Try.ntmps13
  go_wp2_with fail
  go_loopg [4] n (fun g i ww => ∃ k : Nat, k + g = n ∧ i = .int .i64 k ∧ Row ww w.heap.size n (pre k x) ∧ Below w.heap.size w ww ∧ w.heap.size < ww.heap.size)
  case atStart => exact ⟨0, by omega, rfl, row_start w C 60 n x HC.out, (Below.refl _ _).alloc (Nat.le_refl _) _, by simp⟩
  case round =>
    obtain ⟨k, hk, rfl, hR, hW, hz⟩ := hrel
    have S1 := HS.out.below hB hW
    have HR := (show Hid _ from hR)
    have HW := (show Hid _ from hW)
    clear hR hW
    by_cases hlt : k < n
    · have c1 := S1.ws k hlt
      have c2 := S1.ats k hlt
      clear S1
      obtain ⟨v, hv⟩ : ∃ v, v = (((x k).1 : Nat) : Int) := ⟨_, rfl⟩
      obtain ⟨q, hq⟩ : ∃ q, q = (x k).2 := ⟨_, rfl⟩
      rw [← hv] at c1
      rw [← hq] at c2
      have HV := (show Hid _ from hv)
      have HQ := (show Hid _ from hq)
      clear hv hq
      have hBr : B < wr.heap.size := by omega
      go_wp2_with fail
      go_region_with (first
        | (go_at_call 31; refine (keyW_any v q _).mono ?_; rintro e w1 ⟨rfl, hb1⟩; have g1 := (hb1.cell (p := ⟨B, k * 2, none⟩) hBr).trans c1; have g2 := (hb1.cell (p := ⟨B, k * 2 + 1, none⟩) hBr).trans c2; have HB1 : Hid (Below wr.heap.size wr w1) := (Below.refl _ _).drew.trans hb1; clear hb1)
        | (go_at_call 32; refine (keyAt_any v q _).mono ?_; rintro e w2 ⟨rfl, hb2⟩; have HB2 : Hid (Below wr.heap.size wr w2) := HB1.out.trans (hb2.mono HB1.out.size); have R1 := HR.out.below hz HB2.out; have c3 := R1.ws k hlt; have c4 := R1.ats k hlt; have f3 := R1.free (k * 2); have f4 := R1.free (k * 2 + 1); have HR1 := (show Hid _ from R1); clear R1 hb2))
      all_goals
        go_wp2_with fail
        go_roundg (gk - 1)
        case measure => omega
        case rel =>
          have T2 := HR1.out.set hlt (x k) HV.out HQ.out
          rw [pre_next] at T2
          have hz1 := HB2.out.size
          exact ⟨k + 1, by omega, by go_num, T2, (HW.out.trans (HB2.out.mono (by omega))).setCell (Nat.le_refl _) _ |>.setCell (Nat.le_refl _) _, by simp [World.setCell]; omega⟩
    · clear S1
      go_wp2_with fail
      go_ret
      exact ⟨rfl, HW.out, hz, HR.out.congr (fun j hj => by simp [pre, show j < k by omega])⟩
end Go.Proofs.Qxb6603421a
