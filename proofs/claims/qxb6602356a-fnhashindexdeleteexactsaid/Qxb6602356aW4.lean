import Derived.Test.Qxb6602356aMem
import Derived.Deep.LoopGhost
import Derived.Deep.DeepCutAuto
namespace Go.Proofs.Qxb6602356a
open Go.RowKit Hx
set_option linter.unusedVariables false

/-- What Delete leaves. -/
def DelPost (X B n cap : Nat) (h p : Nat → Int) (count tch hh pp : Int) (w w' : World) : Prop :=
  ∃ h' p', Deleted n h p hh pp h' p' ∧ Tab w' X B n cap h' p' (count - 1) tch ∧ Only (fun k => k = B ∨ k = X) w w' ∧ ∀ j, j < n → 0 ≤ h' j ∧ h' j ≤ 18446744073709551615

theorem adv_next {n a k : Nat} (ha : a < n) (hk : k < n) : adv n (adv n a k) 1 = adv n a (k + 1) := by unfold adv; repeat' split
                                                                                                       all_goals omega

/-- While the item is looked for: d steps on from its home, it has not been met. -/
def Seek (n g D : Nat) (h p : Nat → Int) (hh pp : Int) (d : Nat) : Prop := d ≤ D ∧ D < n ∧ h (adv n g D) = hh ∧ p (adv n g D) = pp ∧ ∀ x, x ≤ D → h (adv n g x) ≠ 0

theorem seek_more {n g D : Nat} {h p : Nat → Int} {hh pp : Int} {d k j : Nat} (S : Seek n g D h p hh pp 0) (hd : d + k = D) (ej : j = adv n g d) (hno : ¬ (h j = hh ∧ p j = pp)) : 1 ≤ k := by
  rcases Nat.eq_zero_or_pos k with h0 | h0
  · have : d = D := by omega
    subst this
    rw [ej] at hno
    exact absurd ⟨S.2.2.1, S.2.2.2.1⟩ hno
  · exact h0

theorem del_E {n E : Nat} {h0 p0 : Nat → Int} {i0 : Nat} {h p : Nat → Int} {i cj : Nat} (hE : E < n) (he : h0 E = 0) (hi0 : i0 < n) (ho0 : h0 i0 ≠ 0) (D : DInv n E h0 p0 i0 h p i cj) : h E = 0 := by
  have hcE : dst n E E = 0 := dst_self n E
  have hci0 : dst n E i0 ≠ 0 := fun h1 => by
    have : i0 = E := dst_inj hE hi0 hE (by rw [h1, hcE])
    subst this; exact ho0 he
  rw [(D.out E hE (by omega)).1]; exact he

theorem del_end {X B n cap E : Nat} {h0 p0 : Nat → Int} {i0 : Nat} {h p : Nat → Int} {i cj : Nat} {count tch hh pp : Int} {w ww : World} (hE : E < n) (he : h0 E = 0) (hi0 : i0 < n) (ho0 : h0 i0 ≠ 0) (hinv : LInv n E h0)
    (D : DInv n E h0 p0 i0 h p i cj) (hz : h (adv n E cj) = 0) (e1 : h0 i0 = hh) (e2 : p0 i0 = pp)
    (T : Tab ((ww.setCell ⟨B, i * 2, none⟩ (.int .u64 0)).setCell ⟨B, i * 2 + 1, none⟩ (.int .i64 0)) X B n cap (upd h i 0) (upd p i 0) count tch) (O : Only (fun k => k = B ∨ k = X) w ww)
    (hB : ∀ x, x < n → 0 ≤ h x ∧ h x ≤ 18446744073709551615) :
    DelPost X B n cap h0 p0 count tch hh pp w ((((ww.setCell ⟨B, i * 2, none⟩ (.int .u64 0)).setCell ⟨B, i * 2 + 1, none⟩ (.int .i64 0))).setCell ⟨X, 1, none⟩ (.int .i64 (count - 1))) := by
  have DD := dinv_end hE he hi0 ho0 hinv D hz
  rw [e1, e2] at DD
  refine ⟨_, _, DD, T.setCount _, ((O.setCell (.inl rfl) _).setCell (.inl rfl) _).setCell (.inr rfl) _, fun j hj => ?_⟩
  unfold upd
  split
  · omega
  · exact hB j hj

set_option maxHeartbeats 2000000 in
theorem del_any (X B n cap E D : Nat) (count tch hq hh pp : Int) (h p : Nat → Int) (hn : 16 ≤ n) (hn2 : n ≤ 65536) (hp2 : P2 n) (hq0 : 0 ≤ hq) (hq1 : hq ≤ 18446744073709551615) (ehh : Hid (hh = hq / 2 * 2 + 1)) (w : World)
    (T : Tab w X B n cap h p count tch) (hc1 : 1 ≤ count) (hc2 : count ≤ 65536) (hE : E < n) (he : Hid (h E = 0)) (hinv : LInv n E h) (hsl : ∀ x, x < n → SlotOk h p x)
    (hB : ∀ j, j < n → 0 ≤ h j ∧ h j ≤ 18446744073709551615) (hsk : Seek n (hom n hh) D h p hh pp 0) :
    Calls Try.prog 18 #[.pointer (some ⟨X, 0, none⟩), .int .u64 hq, .int .i64 pp] w fun e w' => e = .returned (.tuple #[]) ∧ DelPost X B n cap h p count tch hh pp w w' := by
  have o1 := or_one hq hq0 hq1
  rw [← ehh.out] at o1
  have hb : 0 ≤ hh ∧ hh ≤ 18446744073709551615 := by have := ehh.out; omega
  have hg := hom_lt (n := n) (by omega) hh
  have s0 := T.slots
  have HT := (show Hid _ from T)
  have HB := (show Hid _ from hB)
  have HSL := (show Hid _ from hsl)
  have HI := (show Hid _ from hinv)
  have HSK := (show Hid _ from hsk)
  clear T hB hsl hinv hsk
  go_enter Try.func18, Try.ntmps18
  go_wp2_with (go_at_call 26; refine (home_any _ _ n cap (by omega) hn2 hp2 hh hb.1 hb.2 _ s0).mono ?_; rintro e w' ⟨rfl, rfl⟩)
  obtain ⟨g, eg⟩ : ∃ g, g = hom n hh := ⟨_, rfl⟩
  rw [← eg] at hg HSK
  rw [← eg]
  have EG := (show Hid _ from eg)
  clear eg
  go_loopg [6] D (fun k i wr => ∃ d : Nat, d + k = D ∧ i = .int .i64 (adv n g d : Nat) ∧ w = wr)
  case atStart => exact ⟨0, by omega, by rw [adv_zero hg], rfl⟩
  case round =>
    obtain ⟨d, hd, rfl, rfl⟩ := hrel
    have hdn : d < n := by have := HSK.out.2.1; omega
    have hj := adv_lt (n := n) (k := d) hg (by omega)
    have hocc := HSK.out.2.2.2.2 d (by omega)
    have hnx := adv_next (n := n) hg hdn
    obtain ⟨j, ej⟩ : ∃ j, j = adv n g d := ⟨_, rfl⟩
    rw [← ej] at hj hocc hnx
    rw [← ej]
    have EJ := (show Hid _ from ej)
    have HNX := (show Hid _ from hnx)
    clear ej hnx
    have c1 := HT.out.hs j hj
    have c2 := HT.out.ps j hj
    obtain ⟨v, hv⟩ : ∃ v, v = h j := ⟨_, rfl⟩
    obtain ⟨q, hqq⟩ : ∃ q, q = p j := ⟨_, rfl⟩
    rw [← hv] at c1 hocc
    rw [← hqq] at c2
    have hvz : (v == 0) = false := by simpa using hocc
    have HV := (show Hid _ from hv)
    have HQ := (show Hid _ from hqq)
    clear hv hqq hocc
    by_cases e1 : v = hh
    · by_cases e2 : q = pp
      · rw [e1] at c1 hvz
        rw [e2] at c2
        have EV : Hid (h j = hh) := by rw [← e1]; exact HV.out.symm
        have EQ : Hid (p j = pp) := by rw [← e2]; exact HQ.out.symm
        clear e1 e2 HV HQ v q
        have hjz : h j ≠ 0 := by rw [EV.out]; simpa using hvz
        have hnj := adv_next (n := n) (k := dst n E j) hE (dst_lt hE hj)
        rw [adv_dst hE hj] at hnj
        have D0 : Hid (DInv n E h p j h p j (dst n E j + 1)) := dinv_start hE he.out hj hjz HI.out HSL.out
        have HJZ := (show Hid _ from hjz)
        have HNJ := (show Hid _ from hnj)
        clear hjz hnj
        go_wp2_with (go_at_call 27; refine (next_any _ _ n cap (by omega) hn2 hp2 j hj _ s0).mono ?_; rintro e w' ⟨rfl, rfl⟩)
        clear c1 c2 hvz
        go_loopg [6, 7] (n - (dst n E j + 1)) (fun k i jj ww => ∃ (cj ii : Nat) (h' p' : Nat → Int), cj + k = n ∧ i = .int .i64 ii ∧ jj = .int .i64 (adv n E cj : Nat) ∧ DInv n E h p j h' p' ii cj ∧
          Tab ww X B n cap h' p' count tch ∧ Only (fun k => k = B ∨ k = X) w ww ∧ ∀ x, x < n → 0 ≤ h' x ∧ h' x ≤ 18446744073709551615)
        case atStart => exact ⟨dst n E j + 1, j, h, p, by have := dst_lt hE hj; omega, rfl, by rw [HNJ.out], D0.out, HT.out, Only.refl _ _, HB.out⟩
        case round =>
          obtain ⟨cj, ii, h', p', hck, rfl, rfl, hD, hT, hO, hBd⟩ := hrel
          have hcn : cj ≤ n := by omega
          have hii : ii < n := hD.hi
          have hj2 := adv_lt (n := n) (k := cj) hE hcn
          have s1 := hT.slots
          have ct := hT.cnt
          have f1 := hT.fb (ii * 2)
          have f2 := hT.fb (ii * 2 + 1)
          have fx1 := hT.fx 1
          have c3 := hT.hs ii hii
          have c4 := hT.ps ii hii
          have c1 := hT.hs _ hj2
          have c2 := hT.ps _ hj2
          have hb2 := hBd _ hj2
          obtain ⟨j2, ej2⟩ : ∃ j2, j2 = adv n E cj := ⟨_, rfl⟩
          rw [← ej2] at hj2 c1 c2 hb2
          rw [← ej2]
          obtain ⟨v, hv⟩ : ∃ v, v = h' j2 := ⟨_, rfl⟩
          obtain ⟨q, hqq⟩ : ∃ q, q = p' j2 := ⟨_, rfl⟩
          rw [← hv] at c1 hb2
          rw [← hqq] at c2
          have hne := hT.ne
          have HT2 := (show Hid _ from hT)
          have HD2 := (show Hid _ from hD)
          have HO2 := (show Hid _ from hO)
          have HB2 := (show Hid _ from hBd)
          have EJ2 := (show Hid _ from ej2)
          have HV2 := (show Hid _ from hv)
          have HQ2 := (show Hid _ from hqq)
          clear hT hD hO hBd ej2 hv hqq
          by_cases hvz : v = 0
          · have T2 := HT2.out.set hii 0 0
            have d1 := T2.cnt
            have d2 := T2.fx 1
            have HT3 := (show Hid _ from T2)
            clear T2
            have VZ : Hid (h' j2 = 0) := by rw [← hvz]; exact HV2.out.symm
            rw [hvz] at c1
            clear hvz HV2
            go_wp2_with fail
            go_end0
            exact ⟨rfl, del_end hE he.out hj HJZ.out HI.out HD2.out (by rw [← EJ2.out]; exact VZ.out) EV.out EQ.out HT3.out HO2.out HB2.out⟩
          · have hvb : (v != 0) = true := by simpa using hvz
            have hg0 := hom_lt (n := n) (by omega) v
            have hd1 : bits .and .i64 ((j2 : Int) - ((hom n v : Nat) : Int)) ((n : Int) - 1) = ((dst n (hom n v) j2 : Nat) : Int) := by rw [hp2.and]; exact dst_mod hg0 hj2
            have hd2 : bits .and .i64 ((j2 : Int) - (ii : Int)) ((n : Int) - 1) = ((dst n ii j2 : Nat) : Int) := by rw [hp2.and]; exact dst_mod hii hj2
            obtain ⟨da, ea⟩ : ∃ da, da = dst n (hom n v) j2 := ⟨_, rfl⟩
            obtain ⟨db, eb⟩ : ∃ db, db = dst n ii j2 := ⟨_, rfl⟩
            rw [← ea] at hd1
            rw [← eb] at hd2
            have VZ : Hid (h' j2 ≠ 0) := by rw [← HV2.out]; exact hvz
            have hcl : cj < n := full_empty hE (del_E hE he.out hj HJZ.out HD2.out) hcn (by rw [← EJ2.out]; exact VZ.out)
            have hnx2 := adv_next (n := n) (k := cj) hE hcl
            rw [← EJ2.out] at hnx2
            have htst := dinv_test hE HD2.out hcl (by rw [← EJ2.out]; exact VZ.out)
            rw [← EJ2.out, ← HV2.out, ← ea, ← eb] at htst
            have EA := (show Hid _ from ea)
            have EB := (show Hid _ from eb)
            have HN2 := (show Hid _ from hnx2)
            have HTS := (show Hid _ from htst)
            clear ea eb hvz hnx2 htst
            by_cases ht : db ≤ da
            · have T2 := HT2.out.set hii v q
              have HT3 := (show Hid _ from T2)
              have s2 := T2.drew.slots
              clear T2
              go_wp2_with (first
                | (go_at_call 26; refine (home_any _ _ n cap (by omega) hn2 hp2 v hb2.1 hb2.2 _ s1).mono ?_; rintro e w' ⟨rfl, rfl⟩)
                | (go_at_call 29; refine (mask_any _ _ n cap (by omega) hn2 _ s1).mono ?_; rintro e w' ⟨rfl, rfl⟩))
              go_region
              go_wp2_with (go_at_call 27; refine (next_any _ _ n cap (by omega) hn2 hp2 j2 hj2 _ s2).mono ?_; rintro e w' ⟨rfl, rfl⟩)
              go_roundg (gk - 1)
              case measure => omega
              case rel =>
                refine ⟨cj + 1, j2, upd h' ii v, upd p' ii q, by omega, rfl, by rw [HN2.out], ?_, HT3.out.drew, ((HO2.out.setCell (.inl rfl) _).setCell (.inl rfl) _).drew, fun x hx => ?_⟩
                · have M := dinv_move hE HD2.out hcl (by rw [← EJ2.out]; exact VZ.out) (by rw [← EJ2.out, ← HV2.out]; exact HTS.out.1 ht)
                  rw [← EJ2.out, ← HV2.out, ← HQ2.out] at M
                  exact M
                · unfold upd
                  split
                  · exact hb2
                  · exact HB2.out x hx
            · go_wp2_with (first
                | (go_at_call 26; refine (home_any _ _ n cap (by omega) hn2 hp2 v hb2.1 hb2.2 _ s1).mono ?_; rintro e w' ⟨rfl, rfl⟩)
                | (go_at_call 29; refine (mask_any _ _ n cap (by omega) hn2 _ s1).mono ?_; rintro e w' ⟨rfl, rfl⟩)
                | (go_at_call 27; refine (next_any _ _ n cap (by omega) hn2 hp2 j2 hj2 _ s1).mono ?_; rintro e w' ⟨rfl, rfl⟩))
              go_roundg (gk - 1)
              case measure => omega
              case rel => exact ⟨cj + 1, ii, h', p', by omega, rfl, by rw [HN2.out], dinv_stay hE HD2.out hcl (by rw [← EJ2.out]; exact VZ.out) (by rw [← EJ2.out, ← HV2.out]; exact fun hx => ht (HTS.out.2 hx)), HT2.out, HO2.out, HB2.out⟩
      · have hgk : 1 ≤ gk := seek_more HSK.out hd EJ.out (fun hx => e2 (by rw [HQ.out]; exact hx.2))
        rw [e1] at c1 hvz
        clear e1
        go_wp2_with (go_at_call 27; refine (next_any _ _ n cap (by omega) hn2 hp2 j hj _ s0).mono ?_; rintro e w' ⟨rfl, rfl⟩)
        go_roundg (gk - 1)
        case measure => omega
        case rel => exact ⟨d + 1, by omega, by rw [HNX.out], rfl⟩
    · have hgk : 1 ≤ gk := seek_more HSK.out hd EJ.out (fun hx => e1 (by rw [HV.out]; exact hx.1))
      go_wp2_with (go_at_call 27; refine (next_any _ _ n cap (by omega) hn2 hp2 j hj _ s0).mono ?_; rintro e w' ⟨rfl, rfl⟩)
      go_roundg (gk - 1)
      case measure => omega
      case rel => exact ⟨d + 1, by omega, by rw [HNX.out], rfl⟩
end Go.Proofs.Qxb6602356a
