import Derived.Test.Qxb6602356aW1
namespace Go.Proofs.Qxb6602356a
open Go.RowKit Hx
set_option linter.unusedVariables false

/-- It has returned a Bool of which Q holds. -/
def Says (Q : Bool → Prop) (e : Ending) : Prop := ∃ r, e = .returned (.bool r) ∧ Q r

set_option maxHeartbeats 400000 in
theorem valid_ne (ao bo : Option Addr) (n c m d : Nat) (count : Int) (hn : n ≤ maxLen) (hm : m ≤ maxLen) (hne : m ≠ n) (w : World) :
    Calls Try.prog 9 #[.slice ao n c, .slice bo m d, .int .i64 count] w fun e w' => e = .returned (.bool false) ∧ w = w' := by
  unfold maxLen at hn hm
  have hb : ((m : Int) != (n : Int)) = true := by simp; omega
  go_enter Try.func9, Try.ntmps9
  go_wp2_with fail
  go_ret
  exact ⟨rfl, rfl⟩

set_option maxHeartbeats 400000 in
theorem valid_zero (ao bo : Option Addr) (c d : Nat) (count : Int) (w : World) :
    Calls Try.prog 9 #[.slice ao 0 c, .slice bo 0 d, .int .i64 count] w fun e w' => Says (fun _ => True) e ∧ w = w' := by
  go_enter Try.func9, Try.ntmps9
  go_wp2_with fail
  go_ret
  exact ⟨⟨_, rfl, trivial⟩, rfl⟩

/-- One slot is as it should be. -/
def SlotOk (h p : Nat → Int) (j : Nat) : Prop := (h j = 0 → p j = 0) ∧ (h j ≠ 0 → h j % 2 = 1)
/-- The first loop's 'empty'. -/
def EmpR (h : Nat → Int) (k : Nat) (ev : Int) : Prop := (ev = -1 ∧ ∀ j, j < k → h j ≠ 0) ∨ ∃ E : Nat, E < k ∧ ev = E ∧ h E = 0
theorem EmpR.bd {h : Nat → Int} {k : Nat} {ev : Int} (H : EmpR h k ev) : -1 ≤ ev ∧ ev < (k : Int) := by
  rcases H with ⟨h1, _⟩ | ⟨E, h1, h2, _⟩ <;> omega
theorem EmpR.hit {h : Nat → Int} {k : Nat} {ev : Int} (H : EmpR h k ev) (hz : h k = 0) : EmpR h (k + 1) (if ev < 0 then (k : Int) else ev) := by
  split
  · exact .inr ⟨k, by omega, rfl, hz⟩
  · rcases H with ⟨h1, _⟩ | ⟨E, h1, h2, h3⟩
    · omega
    · exact .inr ⟨E, by omega, h2, h3⟩
theorem EmpR.miss {h : Nat → Int} {k : Nat} {ev : Int} (H : EmpR h k ev) (hz : h k ≠ 0) : EmpR h (k + 1) ev := by
  rcases H with ⟨h1, h2⟩ | ⟨E, h1, h2, h3⟩
  · refine .inl ⟨h1, fun j hj => ?_⟩
    by_cases hjk : j = k
    · rw [hjk]; exact hz
    · exact h2 j (by omega)
  · exact .inr ⟨E, by omega, h2, h3⟩

theorem slots_next {h p : Nat → Int} {k : Nat} (H : ∀ j, j < k → SlotOk h p j) (hk : SlotOk h p k) : ∀ j, j < k + 1 → SlotOk h p j := fun j hj => by
  by_cases hjk : j = k
  · rw [hjk]; exact hk
  · exact H j (by omega)

theorem chk_empty {n E k : Nat} {h : Nat → Int} (H : ∀ c, 1 ≤ c → c < k → h (adv n E c) ≠ 0 → LAt n E h (adv n E c)) (hz : h (adv n E k) = 0) :
    ∀ c, 1 ≤ c → c < k + 1 → h (adv n E c) ≠ 0 → LAt n E h (adv n E c) := fun c h1 h2 h3 => by
  by_cases hck : c = k
  · rw [hck] at h3; exact absurd hz h3
  · exact H c h1 (by omega) h3
theorem full_empty {n E k : Nat} {h : Nat → Int} (hE : E < n) (he : h E = 0) (hk : k ≤ n) (hz : h (adv n E k) ≠ 0) : k < n := by
  rcases Nat.lt_or_ge k n with h1 | h1
  · exact h1
  · rw [show k = n by omega, adv_full hE] at hz; exact absurd he hz
theorem chk_bad {n E k r : Nat} {h : Nat → Int} (hE : E < n) (he : h E = 0) (hr : Run n E h k r) (hk : k ≤ n) (hz : h (adv n E k) ≠ 0)
    (ht : ¬ dst n (hom n (h (adv n E k))) (adv n E k) < r + 1) (hc : CInv n h) : False := by
  have hkn := full_empty hE he hk hz
  exact ht ((run_test hE hr hkn hz).2 ((cinv_linv hE he).1 hc _ (adv_lt hE hk) hz))
theorem chk_good {n E k r : Nat} {h : Nat → Int} (hE : E < n) (he : h E = 0) (hr : Run n E h k r) (H : ∀ c, 1 ≤ c → c < k → h (adv n E c) ≠ 0 → LAt n E h (adv n E c)) (hk : k ≤ n) (hz : h (adv n E k) ≠ 0)
    (ht : dst n (hom n (h (adv n E k))) (adv n E k) < r + 1) : ∀ c, 1 ≤ c → c < k + 1 → h (adv n E c) ≠ 0 → LAt n E h (adv n E c) := fun c h1 h2 h3 => by
  have hkn := full_empty hE he hk hz
  by_cases hck : c = k
  · rw [hck]; exact (run_test hE hr hkn hz).1 ht
  · exact H c h1 (by omega) h3

/-- What tableValid answers of a table that is not empty. -/
def VB (n : Nat) (h p : Nat → Int) (count : Int) (b : Bool) : Prop := b = true ↔ (Valid n h p count ∧ P2 n)
theorem VB.no {n : Nat} {h p : Nat → Int} {count : Int} (H : ¬ (Valid n h p count ∧ P2 n)) : VB n h p count false := ⟨fun e => absurd e Bool.false_ne_true, fun v => absurd v H⟩

theorem occ_hit (h : Nat → Int) (k : Nat) (hz : h k = 0) : occN h (k + 1) = occN h k := by simp [occN, hz]
theorem occ_miss (h : Nat → Int) (k : Nat) (hz : h k ≠ 0) : occN h (k + 1) = occN h k + 1 := by simp [occN, hz]

set_option maxHeartbeats 1000000 in
theorem valid_small (b off b2 off2 n c c2 : Nat) (count : Int) (h p : Nat → Int) (hn : 1 ≤ n) (hn2 : n ≤ 65536) (hbad : n < 16 ∨ (16 ≤ n ∧ bits .and .i64 (n : Int) ((n : Int) - 1) ≠ 0)) (w : World) :
    Calls Try.prog 9 #[.slice (some ⟨b, off, none⟩) n c, .slice (some ⟨b2, off2, none⟩) n c2, .int .i64 count] w fun e w' => Says (VB n h p count) e ∧ w = w' := by
  have h0 : ((n : Int) == 0) = false := by simp; omega
  rcases hbad with hb | ⟨hb, hq⟩
  · go_enter Try.func9, Try.ntmps9
    go_wp2_with fail
    go_ret
    exact ⟨⟨false, rfl, VB.no fun v => by have := v.1.big; omega⟩, rfl⟩
  · have hq' : (bits .and .i64 (n : Int) ((n : Int) - 1) != 0) = true := by simpa using hq
    have HQ := (show Hid _ from hq)
    clear hq
    go_enter Try.func9, Try.ntmps9
    go_wp2_with fail
    go_ret
    refine ⟨⟨false, rfl, VB.no fun v => HQ.out ?_⟩, rfl⟩
    obtain ⟨m, hm, e⟩ := v.2
    rw [P2.and ⟨m, hm, e⟩]
    simp

set_option maxHeartbeats 2000000 in
theorem valid_big (b off b2 off2 n c c2 : Nat) (count : Int) (h p : Nat → Int) (hn : 16 ≤ n) (hn2 : n ≤ 65536) (hp2 : P2 n) (w : World)
    (hH : ∀ j, j < n → w.cell? ⟨b, off + j, none⟩ = some (.int .u64 (h j))) (hP : ∀ j, j < n → w.cell? ⟨b2, off2 + j, none⟩ = some (.int .i64 (p j)))
    (hB : ∀ j, j < n → 0 ≤ h j ∧ h j ≤ 18446744073709551615) :
    Calls Try.prog 9 #[.slice (some ⟨b, off, none⟩) n c, .slice (some ⟨b2, off2, none⟩) n c2, .int .i64 count] w fun e w' => Says (VB n h p count) e ∧ w = w' := by
  have h0 : ((n : Int) == 0) = false := by simp; omega
  have hq' : (bits .and .i64 (n : Int) ((n : Int) - 1) != 0) = false := by rw [hp2.and]; simp
  have HH := (show Hid _ from hH)
  have HP := (show Hid _ from hP)
  have HB := (show Hid _ from hB)
  clear hH hP hB
  go_enter Try.func9, Try.ntmps9
  go_wp2_with fail
  go_loop [8, 9, 10] (fun o e i => ∃ (k : Nat) (ev : Int), k ≤ n ∧ i = .int .i64 k ∧ o = .int .i64 (occN h k : Nat) ∧ e = .int .i64 ev ∧ EmpR h k ev ∧ ∀ j, j < k → SlotOk h p j) (fun _ _ i => n - (intOf i).toNat)
  case atStart => exact ⟨0, -1, by omega, rfl, rfl, rfl, .inl ⟨rfl, fun j hj => by omega⟩, fun j hj => by omega⟩
  case round =>
    obtain ⟨k, ev, hk, rfl, rfl, rfl, hemp, hslots⟩ := hrel
    have hev := hemp.bd
    have HE := (show Hid _ from hemp)
    have HS := (show Hid _ from hslots)
    have hoc := occN_le h k
    clear hemp hslots
    by_cases hlt : k < n
    · have c1 := HH.out k hlt
      have c2' := HP.out k hlt
      have hb := HB.out k hlt
      obtain ⟨v, hv⟩ : ∃ v, v = h k := ⟨_, rfl⟩
      obtain ⟨q, hq⟩ : ∃ q, q = p k := ⟨_, rfl⟩
      rw [← hv] at c1 hb
      rw [← hq] at c2'
      have HV := (show Hid _ from hv)
      have HQ := (show Hid _ from hq)
      clear hv hq
      go_wp2_with fail
      · have t1 : (v == 0) = true := by assumption
        have t2 : (q != 0) = true := by assumption
        go_ret
        refine ⟨⟨false, rfl, VB.no fun V => ?_⟩, rfl⟩
        have e1 := (V.1.slots k hlt).1 (by rw [← HV.out]; simpa using t1)
        rw [← HQ.out] at e1
        simp [e1] at t2
      · have t1 : (v == 0) = true := by assumption
        have t2 : (q != 0) = false := by assumption
        have t3 : ev < 0 := by assumption
        have z1 : h k = 0 := by rw [← HV.out]; simpa using t1
        have z2 : p k = 0 := by rw [← HQ.out]; simpa using t2
        have R := EmpR.hit HE.out z1
        rw [if_pos t3] at R
        go_round
        case rel => exact ⟨k + 1, k, by omega, by go_num, by rw [occ_hit h k z1], rfl, R, slots_next HS.out ⟨fun _ => z2, fun hne => absurd z1 hne⟩⟩
        case measure => simp [intOf]; omega
      · have t1 : (v == 0) = true := by assumption
        have t2 : (q != 0) = false := by assumption
        have t3 : 0 ≤ ev := by assumption
        have z1 : h k = 0 := by rw [← HV.out]; simpa using t1
        have z2 : p k = 0 := by rw [← HQ.out]; simpa using t2
        have R := EmpR.hit HE.out z1
        rw [if_neg (by omega)] at R
        go_round
        case rel => exact ⟨k + 1, ev, by omega, by go_num, by rw [occ_hit h k z1], rfl, R, slots_next HS.out ⟨fun _ => z2, fun hne => absurd z1 hne⟩⟩
        case measure => simp [intOf]; omega
      · have t1 : (v == 0) = false := by assumption
        have t2 : (bits BinOp.and IntKind.u64 v 1 == 0) = true := by assumption
        go_ret
        refine ⟨⟨false, rfl, VB.no fun V => ?_⟩, rfl⟩
        have e1 := (V.1.slots k hlt).2 (by rw [← HV.out]; simpa using t1)
        rw [← HV.out] at e1
        rw [and_one_u64 v hb.1 hb.2] at t2
        simp at t2
        omega
      · have t1 : (v == 0) = false := by assumption
        have t2 : (bits BinOp.and IntKind.u64 v 1 == 0) = false := by assumption
        have z1 : h k ≠ 0 := by rw [← HV.out]; simpa using t1
        have z2 : h k % 2 = 1 := by
          rw [← HV.out]
          rw [and_one_u64 v hb.1 hb.2] at t2
          simp at t2
          omega
        have R := EmpR.miss HE.out z1
        go_round
        case rel => exact ⟨k + 1, ev, by omega, by go_num, by rw [occ_miss h k z1]; go_num, rfl, R, slots_next HS.out ⟨fun hz => absurd hz z1, fun _ => z2⟩⟩
        case measure => simp [intOf]; omega
    · obtain rfl : n = k := by omega
      by_cases hcnt : (occN h n : Int) = count
      · have hcb : ((occN h n : Int) != count) = false := by simp [hcnt]
        have hc0 : 0 ≤ count ∧ count ≤ (n : Int) := by omega
        have HC := (show Hid _ from hcnt)
        clear hcnt
        by_cases hld : 4 * count ≤ 3 * (n : Int)
        · by_cases hev0 : 0 ≤ ev
          · obtain ⟨E, hEk, hEe, hEz⟩ : ∃ E : Nat, E < n ∧ ev = E ∧ h E = 0 := by
              rcases HE.out with ⟨h1, _⟩ | hh
              · omega
              · exact hh
            subst hEe
            have HZ := (show Hid _ from hEz)
            clear hEz HE
            go_wp2_with fail
            go_loop [12, 13] (fun r i => ∃ k r' : Nat, 1 ≤ k ∧ k ≤ n + 1 ∧ i = .int .i64 k ∧ r = .int .i64 r' ∧ Run n E h k r' ∧ ∀ c, 1 ≤ c → c < k → h (adv n E c) ≠ 0 → LAt n E h (adv n E c)) (fun _ i => n + 1 - (intOf i).toNat)
            case atStart => exact ⟨1, 0, by omega, by omega, rfl, rfl, run_start hEk HZ.out, fun c h1 h2 => by omega⟩
            case round =>
              obtain ⟨k, r, hk1, hk2, rfl, rfl, hrun, hchk⟩ := hrel
              have hrk : r < k := hrun.1
              have HR := (show Hid _ from hrun)
              have HK := (show Hid _ from hchk)
              clear hrun hchk
              by_cases hkn : k ≤ n
              · have hs0 := adv_lt (n := n) (k := k) hEk hkn
                have hs1 : bits .and .i64 ((E : Int) + (k : Int)) ((n : Int) - 1) = ((adv n E k : Nat) : Int) := by rw [hp2.and]; exact adv_mod hEk hkn
                have c1 := HH.out _ hs0
                have hb := HB.out _ hs0
                obtain ⟨sl, hsl⟩ : ∃ sl, sl = adv n E k := ⟨_, rfl⟩
                rw [← hsl] at hs0 hs1 c1 hb
                obtain ⟨v, hv⟩ : ∃ v, v = h sl := ⟨_, rfl⟩
                rw [← hv] at c1 hb
                have hg0 := hom_lt (n := n) (by omega) v
                have hg1 : bits .and .i64 (v / 2) ((n : Int) - 1) = ((hom n v : Nat) : Int) := by rw [hp2.and]; exact hom_mod (by omega) v
                have hd1 : bits .and .i64 ((sl : Int) - ((hom n v : Nat) : Int)) ((n : Int) - 1) = ((dst n (hom n v) sl : Nat) : Int) := by rw [hp2.and]; exact dst_mod hg0 hs0
                obtain ⟨g, hg⟩ : ∃ g, g = hom n v := ⟨_, rfl⟩
                rw [← hg] at hg0 hg1 hd1
                obtain ⟨d, hd⟩ : ∃ d, d = dst n g sl := ⟨_, rfl⟩
                rw [← hd] at hd1
                have HSL := (show Hid _ from hsl)
                have HV := (show Hid _ from hv)
                have HG := (show Hid _ from hg)
                have HD := (show Hid _ from hd)
                clear hsl hv hg hd
                go_wp2_with fail
                · have t1 : (v == 0) = true := by assumption
                  have z1 : h (adv n E k) = 0 := by rw [← HSL.out, ← HV.out]; simpa using t1
                  go_round
                  case rel => exact ⟨k + 1, 0, by omega, by omega, by go_num, rfl, run_empty HR.out z1, chk_empty HK.out z1⟩
                  case measure => simp [intOf]; omega
                · have t1 : (v == 0) = false := by assumption
                  have t2 : (r : Int) + 1 ≤ (d : Int) := by assumption
                  have z1 : h (adv n E k) ≠ 0 := by rw [← HSL.out, ← HV.out]; simpa using t1
                  have z2 : ¬ dst n (hom n (h (adv n E k))) (adv n E k) < r + 1 := by rw [← HSL.out, ← HV.out, ← HG.out, ← HD.out]; omega
                  go_ret
                  exact ⟨⟨false, rfl, VB.no fun V => chk_bad hEk HZ.out HR.out hkn z1 z2 V.1.inv⟩, rfl⟩
                · have t1 : (v == 0) = false := by assumption
                  have t2 : (d : Int) < (r : Int) + 1 := by assumption
                  have z1 : h (adv n E k) ≠ 0 := by rw [← HSL.out, ← HV.out]; simpa using t1
                  have z2 : dst n (hom n (h (adv n E k))) (adv n E k) < r + 1 := by rw [← HSL.out, ← HV.out, ← HG.out, ← HD.out]; omega
                  go_round
                  case rel => exact ⟨k + 1, r + 1, by omega, by omega, by go_num, by go_num, run_more HR.out z1, chk_good hEk HZ.out HR.out HK.out hkn z1 z2⟩
                  case measure => simp [intOf]; omega
              · go_wp2_with fail
                go_ret
                refine ⟨⟨true, rfl, fun _ => ⟨⟨hn, HS.out, HC.out, hld, ⟨E, hEk, HZ.out⟩, ?_⟩, hp2⟩, fun _ => rfl⟩, rfl⟩
                exact (cinv_linv hEk HZ.out).2 (linv_of_checked hEk HZ.out fun c h1 h2 => HK.out c h1 (by omega))
          · go_wp2_with fail
            go_ret
            refine ⟨⟨false, rfl, VB.no fun V => ?_⟩, rfl⟩
            obtain ⟨E, hE, hEz⟩ := V.1.emp
            rcases HE.out with ⟨_, h2⟩ | ⟨E', _, h2, _⟩
            · exact h2 E hE hEz
            · omega
        · go_wp2_with fail
          go_ret
          exact ⟨⟨false, rfl, VB.no fun V => by have := V.1.load; omega⟩, rfl⟩
      · have hcb : ((occN h n : Int) != count) = true := by simp [hcnt]
        have HC := (show Hid _ from hcnt)
        clear hcnt
        go_wp2_with fail
        go_ret
        exact ⟨⟨false, rfl, VB.no fun V => HC.out V.1.cnt⟩, rfl⟩

end Go.Proofs.Qxb6602356a
