import Derived.Test.Qxb6603421aW10
namespace Go.Proofs.Qxb6603421a
open Go.RowKit
set_option linter.unusedVariables false

set_option maxHeartbeats 1000000 in
theorem main_go (ao bo : Option Addr) (n c m d : Nat) (x t : Nat → Key) (hn : n ≤ 32768) (hm : m ≤ 32768) (hx : ∀ j, j < n → (x j).1 < 18446744073709551616) (w : World)
    (hmn : 32 < n → m = n) (hg : n ≤ 32 ∨ (32 < n ∧ ((m : Int) != (n : Int)) = false)) (K1 : Keys w ao n x) (K2 : Keys w bo m t) :
    Calls Try.prog 4 #[.slice ao n c, .slice bo m d] w fun e w' => e = .returned (.bool true) ∧ Below w.heap.size w w' := by
  have hok : okLen n m = true := decide_eq_true (by omega)
  have Hx := (show Hid _ from hx)
  have Hmn := (show Hid _ from hmn)
  have H1 := (show Hid _ from K1)
  have H2 := (show Hid _ from K2)
  clear hx hmn K1 K2
  rcases hg with h3 | ⟨h3, h4⟩
  all_goals
    go_enter Try.func4, Try.ntmps4
    go_wp2_with (first
      | (go_at_call 16; refine (bytes_any _ _ _ _ _ _ (by unfold maxLen; omega) (by unfold maxLen; omega) _).mono ?_; rintro e w' ⟨rfl, rfl⟩)
      | (go_at_call 13; refine (from_all w.heap.size n n y' hn w5 (Nat.lt_of_lt_of_le I1.out.2.1 (Nat.le_trans I2.out.1.size (Nat.le_trans I3.out.only.size (Nat.le_trans I4.out.1.size I5.out.only.size)))) I5.out.row).mono ?_
         rintro e w6 ⟨rfl, b6, s6, r6⟩
         have I6 := (show Hid _ from And.intro b6 (And.intro s6 r6))
         clear b6 s6 r6)
      | (go_at_call 12; refine (zz_any w.heap.size w1.heap.size n m y t' hn Hmn.out I3.out.rng w4
           (Nat.lt_of_lt_of_le I1.out.2.1 (Nat.le_trans I2.out.1.size (Nat.le_trans I3.out.only.size I4.out.1.size)))
           (Nat.lt_of_lt_of_le I2.out.2.1 (Nat.le_trans I3.out.only.size I4.out.1.size)) (Nat.ne_of_lt I1.out.2.1)
           (I3.out.row.below (Nat.lt_of_lt_of_le I1.out.2.1 (Nat.le_trans I2.out.1.size I3.out.only.size)) I4.out.1)
           (I3.out.tmp.below (Nat.lt_of_lt_of_le I2.out.2.1 I3.out.only.size) I4.out.1)).mono ?_
         rintro e w5 ⟨rfl, y', t2, S⟩
         have I5 := (show Hid _ from S)
         clear S)
      | (go_at_call 13; refine (from_all w.heap.size n n y hn w3 (Nat.lt_of_lt_of_le I1.out.2.1 (Nat.le_trans I2.out.1.size I3.out.only.size)) I3.out.row).mono ?_
         rintro e w4 ⟨rfl, b4, s4, r4⟩
         have I4 := (show Hid _ from And.intro b4 (And.intro s4 r4))
         clear b4 s4 r4)
      | (go_at_call 12; refine (zz_any w.heap.size w1.heap.size n m x t hn Hmn.out (fun _ => Hx.out) w2 (Nat.lt_of_lt_of_le I1.out.2.1 I2.out.1.size) I2.out.2.1 (Nat.ne_of_lt I1.out.2.1) I2.out.2.2.2 I2.out.2.2.1).mono ?_
         rintro e w3 ⟨rfl, y, t', S⟩
         have I3 := (show Hid _ from S)
         clear S)
      | (go_at_call 11; refine (to_all bo m d t hm w1 (show Keys w1 bo m t from I1.out.2.2.2)).mono ?_
         rintro e w2 ⟨rfl, b2, s2, r2⟩
         have I2 := (show Hid _ from And.intro b2 (And.intro s2 (And.intro r2 (I1.out.2.2.1.below I1.out.2.1 b2))))
         clear b2 s2 r2)
      | (go_at_call 11; refine (to_all ao n c x hn w H1.out).mono ?_
         rintro e w1 ⟨rfl, b1, s1, r1⟩
         have I1 := (show Hid _ from And.intro b1 (And.intro s1 (And.intro r1 (Keys.below (ao := bo) (n := m) (x := t) H2.out b1))))
         clear b1 s1 r1)
      | (go_at_call 14
         have i1 := I1.out
         have i2 := I2.out
         have i3 := I3.out
         have i4 := I4.out
         have i5 := I5.out
         have i6 := I6.out
         have z3 := i3.only.size
         have z4 := i4.1.size
         have z5 := i5.only.size
         have z2 := i2.1.size
         refine (same_any w5.heap.size w3.heap.size n n n y hn w6 (i6.2.2.congr (i5.keep i3.srt))
           ((i4.2.2.only i4.2.1 i5.only (by omega)).below (by omega) i6.1)).mono ?_
         rintro e w7 ⟨rfl, b7⟩
         have I7 := (show Hid _ from b7)
         clear b7 i1 i2 i3 i4 i5 i6 z2 z3 z4 z5))
    go_ret
    have i1 := I1.out
    have i2 := I2.out
    have i3 := I3.out
    have i4 := I4.out
    have i5 := I5.out
    have i6 := I6.out
    have i7 := I7.out
    have z1 := i1.1.size
    have z2 := i2.1.size
    have z3 := i3.only.size
    have z4 := i4.1.size
    have z5 := i5.only.size
    have z6 := i6.1.size
    refine ⟨rfl, i1.1.trans ((i2.1.mono z1).trans ((i3.only.below (B := w.heap.size) (fun k hk => by omega) (by omega)).trans ((i4.1.mono (by omega)).trans ((i5.only.below (B := w.heap.size) (fun k hk => by omega) (by omega)).trans ((i6.1.mono (by omega)).trans (i7.mono (by omega)))))))⟩
end Go.Proofs.Qxb6603421a
