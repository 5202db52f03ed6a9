import Derived.Test.Qxb6603421aW5
namespace Go.Proofs.Qxb6603421a
open Go.RowKit
set_option linter.unusedVariables false

/-- What the insertion has done so far. -/
structure InsW (w ww : World) (Bg n : Nat) (x y : Nat → Key) : Prop where
  row : Row ww Bg n y
  keep : Srt x n → ∀ j, j < n → y j = x j
  only : Only (fun k => k = Bg) w ww
theorem InsW.start {w : World} {Bg n : Nat} {x : Nat → Key} (R : Row w Bg n x) : InsW w w Bg n x x := ⟨R, fun _ _ _ => rfl, Only.refl _ _⟩
theorem InsW.drewN {w ww : World} {Bg n : Nat} {x y : Nat → Key} (I : InsW w ww Bg n x y) (m : Nat) : InsW w (ww.drewN m) Bg n x y := ⟨I.row.drewN m, I.keep, I.only.drewN m⟩
theorem InsW.drew {w ww : World} {Bg n : Nat} {x y : Nat → Key} (I : InsW w ww Bg n x y) : InsW w ww.drew Bg n x y := ⟨I.row.drew, I.keep, I.only.drew⟩
theorem Row.swap {w : World} {B n : Nat} {y : Nat → Key} (R : Row w B n y) {t : Nat} (ht : t + 1 < n) {v0 v1 q0 q1 : Int} (e0 : v0 = ((y t).1 : Nat)) (e1 : v1 = ((y (t + 1)).1 : Nat)) (e2 : q0 = (y t).2) (e3 : q1 = (y (t + 1)).2) :
    Row ((((w.setCell ⟨B, t * 2, none⟩ (.int .u64 v1)).setCell ⟨B, t * 2 + 1, none⟩ (.int .i64 q1)).setCell ⟨B, (t + 1) * 2, none⟩ (.int .u64 v0)).setCell ⟨B, (t + 1) * 2 + 1, none⟩ (.int .i64 q0)) B n (swp y (t + 1)) :=
  (R.set (i := t) (by omega) (y (t + 1)) e1 e3).set (i := t + 1) ht (y t) e0 e2
theorem InsW.swap {w ww : World} {B n : Nat} {x y : Nat → Key} (I : InsW w ww B n x y) {t : Nat} (ht : t + 1 < n) (hgt : (y (t + 1)).1 < (y t).1) {v0 v1 q0 q1 : Int} (e0 : v0 = ((y t).1 : Nat)) (e1 : v1 = ((y (t + 1)).1 : Nat)) (e2 : q0 = (y t).2) (e3 : q1 = (y (t + 1)).2) :
    InsW w ((((ww.setCell ⟨B, t * 2, none⟩ (.int .u64 v1)).setCell ⟨B, t * 2 + 1, none⟩ (.int .i64 q1)).setCell ⟨B, (t + 1) * 2, none⟩ (.int .u64 v0)).setCell ⟨B, (t + 1) * 2 + 1, none⟩ (.int .i64 q0)) B n x (swp y (t + 1)) where
  row := I.row.swap ht e0 e1 e2 e3
  keep := fun hs => by
    exfalso
    have h1 := I.keep hs t (by omega)
    have h2 := I.keep hs (t + 1) ht
    have := hs t (t + 1) (by omega) ht
    rw [h1, h2] at hgt
    omega
  only := (((I.only.setCell rfl _).setCell rfl _).setCell rfl _).setCell rfl _

set_option maxRecDepth 100000 in
set_option maxHeartbeats 4000000 in
theorem ins_any (Bg n cg : Nat) (bo : Option Addr) (m d : Nat) (x : Nat → Key) (hn2 : n ≤ 32) (w : World) (R : Row w Bg n x) :
    Calls Try.prog 30 #[.slice (some ⟨Bg, 0, none⟩) n cg, .slice bo m d] w fun e w' => e = .returned (.tuple #[]) ∧ ∃ y, Srt y n ∧ InsW w w' Bg n x y := by
  have H0 : Hid (InsW w w Bg n x x) := InsW.start R
  clear R
  go_enter Try.func30, Try.ntmps30
  go_wp2_with fail
  go_loopg [4] n (fun g iv ww => ∃ (i : Nat) (y : Nat → Key), 1 ≤ i ∧ i + g = n + 1 ∧ iv = .int .i64 i ∧ Srt y i ∧ InsW w ww Bg n x y)
  case atStart => exact ⟨1, x, by omega, by omega, rfl, fun a b h1 h2 => by omega, H0.out⟩
  case round =>
    clear H0
    obtain ⟨i, y, hi1, hi, rfl, hs, hI⟩ := hrel
    have HS := (show Hid _ from hs)
    have HI := (show Hid _ from hI)
    clear hs hI
    by_cases hlt : i < n
    · go_wp2_with fail
      have HJ : Hid (Ins y i i) := Ins.start HS.out
      go_loopg [5] i (fun g jv ww => ∃ (y : Nat → Key), jv = .int .i64 (g : Nat) ∧ Ins y i g ∧ InsW w ww Bg n x y)
      case atStart => exact ⟨y, rfl, HJ.out, HI.out⟩
      case round =>
        clear HJ HS HI
        obtain ⟨y, rfl, hj, hI⟩ := hrel
        have HJ := (show Hid _ from hj)
        have HI := (show Hid _ from hI)
        have hji := hj.1
        clear hj hI
        cases gk with
        | zero =>
          have hd : decide ((0 : Int) < ((0 : Nat) : Int)) = false := rfl
          go_wp2_with fail
          go_quiet (fail)
          go_wp2_with fail
          go_roundg (gk - 1)
          case measure => omega
          case rel => exact ⟨i + 1, y, by omega, by omega, by go_num, Ins.done (j := 0) HJ.out (.inl rfl), HI.out.drewN _⟩
        | succ t =>
          have r1 := HI.out.row.ws t (by omega)
          have r2 := HI.out.row.ws (t + 1) (by omega)
          have r3 := HI.out.row.ats t (by omega)
          have r4 := HI.out.row.ats (t + 1) (by omega)
          have f1 := HI.out.row.free (t * 2)
          have f2 := HI.out.row.free ((t + 1) * 2)
          have f3 := HI.out.row.free (t * 2 + 1)
          have f4 := HI.out.row.free ((t + 1) * 2 + 1)
          obtain ⟨v0, e0⟩ : ∃ v, v = (((y t).1 : Nat) : Int) := ⟨_, rfl⟩
          obtain ⟨v1, e1⟩ : ∃ v, v = (((y (t + 1)).1 : Nat) : Int) := ⟨_, rfl⟩
          obtain ⟨q0, e2⟩ : ∃ v, v = (y t).2 := ⟨_, rfl⟩
          obtain ⟨q1, e3⟩ : ∃ v, v = (y (t + 1)).2 := ⟨_, rfl⟩
          have hcase : ((y (t + 1)).1 < (y t).1 ∧ decide (v1 < v0) = true) ∨ ((y t).1 ≤ (y (t + 1)).1 ∧ decide (v1 < v0) = false) := by
            by_cases h : v1 < v0
            · exact .inl ⟨by omega, decide_eq_true h⟩
            · exact .inr ⟨by omega, decide_eq_false h⟩
          rw [← e0] at r1
          rw [← e1] at r2
          rw [← e2] at r3
          rw [← e3] at r4
          have E0 := (show Hid _ from e0)
          have E1 := (show Hid _ from e1)
          have E2 := (show Hid _ from e2)
          have E3 := (show Hid _ from e3)
          clear e0 e1 e2 e3
          rcases hcase with ⟨hc, hc2⟩ | ⟨hc, hc2⟩
          · have HC := (show Hid _ from hc)
            clear hc
            go_wp2_with fail
            go_quiet (fail)
            go_wp2_with fail
            go_region
            go_wp2_with fail
            go_roundg t
            case measure => omega
            case rel => exact ⟨swp y (t + 1), by go_num, Ins.swap (j := t + 1) HJ.out (by omega) HC.out, (HI.out.drewN _).swap (by omega) HC.out E0.out E1.out E2.out E3.out⟩
          · have HC := (show Hid _ from hc)
            clear hc
            go_wp2_with fail
            go_quiet (fail)
            go_wp2_with fail
            go_roundg (gk - 1)
            case measure => omega
            case rel => exact ⟨i + 1, y, by omega, by omega, by go_num, Ins.done (j := t + 1) HJ.out (.inr HC.out), HI.out.drewN _⟩
    · have hge : n ≤ i := by omega
      go_wp2_with fail
      refine bodyPost_ret (results_none rfl _ _ _) rfl ?_
      exact ⟨rfl, y, fun a b h1 h2 => HS.out a b h1 (by omega), HI.out⟩
end Go.Proofs.Qxb6603421a
