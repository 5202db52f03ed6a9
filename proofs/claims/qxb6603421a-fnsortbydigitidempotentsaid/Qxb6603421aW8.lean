import Derived.Test.Qxb6603421aCopy
namespace Go.Proofs.Qxb6603421a
open Go.RowKit
set_option linter.unusedVariables false

theorem stt_now (d : Nat → Nat) (n v : Nat) : stt d n v v = cE d v n := by unfold stt; rw [if_neg (by omega)]
/-- The byte of the i-th of the keys y at the shift s. -/
def dy (y : Nat → Key) (s i : Nat) : Nat := byt s (y i).1
theorem St.dy {x y : Nat → Key} {n p : Nat} {P sh : Nat → Nat} (S : St x y n P (dg x sh) p) (j : Nat) (hj : j < n) : dy y (sh p) (P j) = dg x sh p j := by
  unfold Qxb6603421a.dy dg
  rw [S.eq j hj]
theorem scat_start {w ww : World} {Bg Bt Bs Bd n p s : Nat} {x y z : Nat → Key} {P sh F : Nat → Nat} (W : Wd w ww Bg Bt Bs Bd n y z sh (ovr F p (stt (dg x sh p) n 256))) (S : St x y n P (dg x sh) p) (hs : s = sh p) :
    Wd w ww Bg Bt Bs Bd n y z sh (ovr F p (nxt (dy y s) n 0)) := W.congr fun m hm => by
  unfold ovr
  split
  · unfold stt nxt
    rw [if_pos (by omega), hs, cL_perm (m % 256) S.inn S.inj S.dy]
    rfl
  · rfl
theorem scat_set {w ww : World} {Bg Bt Bs Bd n ps : Nat} {y z : Nat → Key} {sh F : Nat → Nat} {i v : Nat} {q : Int} (W : Wd w ww Bg Bt Bs Bd n y z sh F) (hps : ps < n) (ev : v = (y i).1) (eq : q = (y i).2) :
    Wd w ((ww.setCell ⟨Bd, ps * 2, none⟩ (.int .u64 (v : Int))).setCell ⟨Bd, ps * 2 + 1, none⟩ (.int .i64 q)).drew Bg Bt Bs Bd n y (upd z ps (y i)) sh F := (W.setDst hps (y i) (by rw [ev]) eq).drew
theorem scat_step {w ww : World} {Bg Bt Bs Bd n p s i ps bb : Nat} {y z : Nat → Key} {sh F : Nat → Nat} (W : Wd w ww Bg Bt Bs Bd n y z sh (ovr F p (nxt (dy y s) n i))) (hp : p < 8) (ebb : bb = byt s (y i).1) (eps : ps = pos (dy y s) n i) :
    Wd w (ww.setCell ⟨w.heap.size + 1, p * 256 + bb, none⟩ (.int .u32 ((ps : Int) + 1))).drew Bg Bt Bs Bd n y z sh (ovr F p (nxt (dy y s) n (i + 1))) := by
  have hl : dy y s i < 256 := byt_lt _ _
  have eb : bb = dy y s i := ebb
  have e := ovr_upd F p (nxt (dy y s) n i) hl (ps + 1)
  have e2 := nxt_step (dy y s) n i
  rw [nxt_pos, ← eps] at e2
  rw [e2, e, eb]
  exact (W.setCnt (by omega) (ps + 1) (by omega)).drew
theorem cs_next {n p pl : Nat} {x : Nat → Key} {sh F f : Nat → Nat} (hF : ∀ q, p ≤ q → q < pl → ∀ v, v < 256 → F (q * 256 + v) = cE (dg x sh q) v n) : ∀ q, p + 1 ≤ q → q < pl → ∀ v, v < 256 → ovr F p f (q * 256 + v) = cE (dg x sh q) v n := fun q h1 h2 v hv => by
  rw [ovr_off F p q f hv (by omega)]
  exact hF q (by omega) h2 v hv

theorem pass_start {w ww : World} {Bg Bt Bs Bd n p pl : Nat} {x y z : Nat → Key} {sh F : Nat → Nat} (W : Wd w ww Bg Bt Bs Bd n y z sh F) (hF : ∀ q, p ≤ q → q < pl → ∀ v, v < 256 → F (q * 256 + v) = cE (dg x sh q) v n) (hp : p < pl) :
    Wd w ww Bg Bt Bs Bd n y z sh (ovr F p (stt (dg x sh p) n 0)) := W.congr fun m hm => by
  unfold ovr
  split
  · rename_i h
    have := hF p (Nat.le_refl _) hp (m % 256) (by omega)
    rw [show p * 256 + m % 256 = m by omega] at this
    rw [this]
    unfold stt
    rw [if_neg (by omega)]
  · rfl

theorem fin_all {x y : Nat → Key} {n pl : Nat} {P sh : Nat → Nat} (S : St x y n P (dg x sh) pl) (I : PInv x n 8 pl sh) (hx : ∀ j, j < n → (x j).1 < 18446744073709551616) :
    Srt y n ∧ (Srt x n → ∀ j, j < n → y j = x j) ∧ ∀ j, j < n → (y j).1 < 18446744073709551616 := by
  have h := S.done (I.all hx)
  refine ⟨h.1, h.2, fun j hj => ?_⟩
  obtain ⟨k, hk, rfl⟩ := onto S.inn S.inj hj
  rw [S.eq k hk]
  exact hx k hk

set_option maxRecDepth 100000 in
set_option maxHeartbeats 4000000 in
theorem big_any (Bg Bt n : Nat) (x t0 : Nat → Key) (hn : 33 ≤ n) (hn2 : n ≤ 32768) (hx : ∀ j, j < n → (x j).1 < 18446744073709551616) (w : World) (hBg : Bg < w.heap.size) (hBt : Bt < w.heap.size) (hne : Bg ≠ Bt) (R : Row w Bg n x) (T : Row w Bt n t0) :
    Calls Try.prog 30 #[.slice (some ⟨Bg, 0, none⟩) n n, .slice (some ⟨Bt, 0, none⟩) n n] w fun e w' => e = .returned (.tuple #[]) ∧
      ∃ y t, Srt y n ∧ (Srt x n → ∀ j, j < n → y j = x j) ∧ (∀ j, j < n → (y j).1 < 18446744073709551616) ∧ Row w' Bg n y ∧ Row w' Bt n t ∧ Only (fun k => k = Bg ∨ k = Bt) w w' := by
  have HR := (show Hid _ from R)
  have HT := (show Hid _ from T)
  have HX := (show Hid _ from hx)
  clear R T hx
  go_enter Try.func30, Try.ntmps30
  go_wp2_with fail
  go_loopg [6, 7, 73] n (fun g s6 s7 iv ww => ∃ k : Nat, k + g = n ∧ iv = .int .i64 k ∧ s6 = .int .u64 (sm x k : Nat) ∧ s7 = .int .u64 (df x k : Nat) ∧ w = ww)
  case atStart => exact ⟨0, by omega, rfl, rfl, rfl, rfl⟩
  case round =>
    obtain ⟨k, hk, rfl, rfl, rfl, rfl⟩ := hrel
    by_cases hlt : k < n
    · have c1 := HR.out.ws k hlt
      have e1 := sm_and x k (HX.out k hlt)
      have e2 := df_or x k (fun j hj => HX.out j (by omega)) (HX.out k hlt)
      obtain ⟨v, ev⟩ : ∃ v, v = (((x k).1 : Nat) : Int) := ⟨_, rfl⟩
      obtain ⟨s, es⟩ : ∃ s, s = sm x k := ⟨_, rfl⟩
      obtain ⟨d, ed⟩ : ∃ d, d = df x k := ⟨_, rfl⟩
      rw [← ev] at c1 e1 e2
      rw [← es] at e1
      rw [← ed] at e2
      rw [← es, ← ed]
      have E1 := (show Hid _ from e1)
      have E2 := (show Hid _ from e2)
      clear ev es ed e1 e2
      go_wp2_with fail
      go_roundg (gk - 1)
      case measure => omega
      case rel => exact ⟨k + 1, by omega, by go_num, by rw [E1.out], by rw [E2.out], rfl⟩
    · have hkn : n = k := by omega
      subst hkn
      obtain ⟨s, es⟩ : ∃ s, s = sm x n := ⟨_, rfl⟩
      obtain ⟨d, ed⟩ : ∃ d, d = df x n := ⟨_, rfl⟩
      rw [← es, ← ed]
      have ES := (show Hid _ from es)
      have ED := (show Hid _ from ed)
      clear es ed
      go_wp2_with fail
      have P0 : Hid (Pls w (w.alloc (.cells #[.int .i64 0, .int .i64 0, .int .i64 0, .int .i64 0, .int .i64 0, .int .i64 0, .int .i64 0, .int .i64 0] 75)) x n 0 0 (fun _ => 0)) := Pls.start w x n
      have hxor : bits .xor .u64 (s : Int) (d : Int) = ((s ^^^ d : Nat) : Int) := bits_xor_u64_nat _ _ (by rw [ES.out]; exact sm_lt x n) (by rw [ED.out]; exact df_lt HX.out)
      have hq64 : s ^^^ d < 18446744073709551616 := Nat.xor_lt_two_pow (n := 64) (by rw [ES.out]; exact sm_lt x n) (by rw [ED.out]; exact df_lt HX.out)
      obtain ⟨q, eq⟩ : ∃ q, q = s ^^^ d := ⟨_, rfl⟩
      rw [← eq] at hxor hq64
      have EQ : Hid (q = sm x n ^^^ df x n) := by rw [eq, ES.out, ED.out]; exact rfl
      clear eq
      go_loopg [10, 91] 8 (fun g pv bv ww => ∃ (b pl : Nat) (sh : Nat → Nat), b + g = 8 ∧ bv = .int .i64 b ∧ pv = .int .i64 pl ∧ Pls w ww x n b pl sh)
      case atStart => exact ⟨0, 0, fun _ => 0, by omega, rfl, rfl, P0.out⟩
      case round =>
        clear P0
        obtain ⟨b, pl, sh, hb8, rfl, rfl, hP⟩ := hrel
        have HP := (show Hid _ from hP)
        have hpl := hP.inv.le
        clear hP
        by_cases hlt8 : b < 8
        · have c1 := HP.out.row.cell pl (by omega)
          have f1 := HP.out.row.free pl
          cases hb0 : ((q : Int) / 2 ^ (8 * b) % 256 != 0) with
          | true =>
            go_wp2_with fail
            go_roundg (gk - 1)
            case measure => omega
            case rel => exact ⟨b + 1, pl + 1, _, by omega, by go_num, by go_num, HP.out.take hlt8 (by omega)⟩
          | false =>
            have HZ : Hid (byt (8 * b) (sm x n ^^^ df x n) = 0) := by rw [← EQ.out]; exact byt_zero hb0
            go_wp2_with fail
            go_roundg (gk - 1)
            case measure => omega
            case rel => exact ⟨b + 1, pl, sh, by omega, by go_num, rfl, HP.out.skip HZ.out⟩
        · have hb : b = 8 := by omega
          subst hb
          have SH : Hid (∀ p, p < pl → sh p ≤ 56) := HP.out.inv.sh56
          have PV : Hid (PInv x n 8 pl sh) := HP.out.inv
          obtain ⟨Z, hZ, hzv⟩ := zero78
          have hsz := HP.out.size
          have C0 : Hid (Cnt w (wr.alloc (.cells Z 78)) x n sh 0 0) := Cnt.start HP.out hZ
          clear HP hZ EQ hxor hq64 ES ED
          have hsl := slice75 w.heap.size pl hpl
          go_wp2_with fail
          go_loopg [112] pl (fun g pv ww => ∃ p : Nat, p + g = pl ∧ pv = .int .i64 p ∧ Cnt w ww x n sh p 0)
          case atStart => exact ⟨0, by omega, rfl, C0.out⟩
          case round =>
            clear C0
            obtain ⟨p, hp, rfl, hC⟩ := hrel
            have HC := (show Hid _ from hC)
            clear hC
            by_cases hpp : p < pl
            · have c1 := HC.out.shr.cell p (by omega)
              have h56 := SH.out p hpp
              obtain ⟨sp, esp⟩ : ∃ sp, sp = sh p := ⟨_, rfl⟩
              rw [← esp] at c1 h56
              have ESP := (show Hid _ from esp)
              clear esp
              go_wp2_with fail
              clear c1
              obtain ⟨g5, rfl⟩ : ∃ g5, g5 = gk := ⟨_, rfl⟩
              go_loopg [121] n (fun g iv ww => ∃ i : Nat, i + g = n ∧ iv = .int .i64 i ∧ Cnt w ww x n sh p i)
              case atStart => exact ⟨0, by omega, rfl, HC.out⟩
              case round =>
                clear HC
                obtain ⟨i, hi, rfl, hC⟩ := hrel
                have HC := (show Hid _ from hC)
                clear hC
                by_cases hin : i < n
                · have c1 := (HC.out.bel.cell (p := ⟨Bg, i * 2, none⟩) hBg).trans (HR.out.ws i hin)
                  have hb := byt_int sp (x i).1
                  have hbl := byt_lt sp (x i).1
                  obtain ⟨v, ev⟩ : ∃ v, v = (x i).1 := ⟨_, rfl⟩
                  rw [← ev] at c1 hb hbl
                  obtain ⟨bb, ebb⟩ : ∃ bb, bb = byt sp v := ⟨_, rfl⟩
                  rw [← ebb] at hb hbl
                  have EBB : Hid (bb = dg x sh p i) := by rw [ebb, ev, ESP.out]; exact rfl
                  have c2 := HC.out.cnt.cell (p * 256 + bb) (by omega)
                  have f2 := HC.out.cnt.free (p * 256 + bb)
                  rw [cnts_at (dg x sh) n p i hbl] at c2
                  have hcl := cE_le (dg x sh p) bb i
                  obtain ⟨cc, ecc⟩ : ∃ cc, cc = cE (dg x sh p) bb i := ⟨_, rfl⟩
                  rw [← ecc] at c2 hcl
                  have ECC := (show Hid _ from ecc)
                  have hvl : v < 18446744073709551616 := by rw [ev]; exact HX.out i hin
                  clear ebb ev ecc
                  go_wp2_with fail
                  go_region
                  go_wp2_with fail
                  go_roundg (gk - 1)
                  case measure => omega
                  case rel => exact ⟨i + 1, by omega, by go_num, (HC.out.step (by omega) EBB.out (by rw [ECC.out])).drew⟩
                · have hie : n = i := by omega
                  subst hie
                  go_wp2_with fail
                  go_roundg (g5 - 1)
                  case measure => omega
                  case rel => exact ⟨p + 1, by omega, by go_num, HC.out.next⟩
            · have hpe : pl = p := by omega
              subst hpe
              have hsl2 := slice75 w.heap.size pl hpl
              have W0 : Hid (Wd w wr Bg Bt Bg Bt n x t0 sh (cnts (dg x sh) n pl 0)) := Wd.start HC.out hBg hBt hne HR.out HT.out
              have S0 : Hid (St x x n (fun j => j) (dg x sh) 0) := St.start x n (dg x sh)
              have F0 : Hid (∀ q, 0 ≤ q → q < pl → ∀ v, v < 256 → cnts (dg x sh) n pl 0 (q * 256 + v) = cE (dg x sh q) v n) := fun q _ hq v hv => cnts_done (dg x sh) n pl q 0 hq hv
              clear HC
              go_wp2_with fail
              go_loopg [17, 18, 146] pl (fun g s17 s18 pv ww => ∃ (p Bs Bd : Nat) (y z : Nat → Key) (P F : Nat → Nat), p + g = pl ∧ pv = .int .i64 p ∧ s17 = .slice (some ⟨Bs, 0, none⟩) n n ∧ s18 = .slice (some ⟨Bd, 0, none⟩) n n ∧
                Wd w ww Bg Bt Bs Bd n y z sh F ∧ St x y n P (dg x sh) p ∧ ∀ q, p ≤ q → q < pl → ∀ v, v < 256 → F (q * 256 + v) = cE (dg x sh q) v n)
              case atStart => exact ⟨0, Bg, Bt, x, t0, _, _, by omega, rfl, rfl, rfl, W0.out, S0.out, F0.out⟩
              case round =>
                clear W0 S0 F0
                obtain ⟨p, Bs, Bd, y, z, P, F, hp, rfl, rfl, rfl, hWd, hSt, hF⟩ := hrel
                have HW := (show Hid _ from hWd)
                have HST := (show Hid _ from hSt)
                have HF := (show Hid _ from hF)
                clear hWd hSt hF
                by_cases hpp : p < pl
                · have c1 := HW.out.shr.cell p (by omega)
                  have h56 := SH.out p hpp
                  obtain ⟨sp, esp⟩ : ∃ sp, sp = sh p := ⟨_, rfl⟩
                  rw [← esp] at c1 h56
                  have ESP := (show Hid _ from esp)
                  clear esp
                  have W1 : Hid (Wd w wr Bg Bt Bs Bd n y z sh (ovr F p (stt (dg x sh p) n 0))) := pass_start HW.out HF.out hpp
                  go_wp2_with fail
                  clear c1
                  obtain ⟨g7, rfl⟩ : ∃ g7, g7 = gk := ⟨_, rfl⟩
                  go_loopg [22, 154] 256 (fun g av vv ww => ∃ v : Nat, v + g = 256 ∧ vv = .int .i64 v ∧ av = .int .u32 (cL (dg x sh p) v n : Nat) ∧ Wd w ww Bg Bt Bs Bd n y z sh (ovr F p (stt (dg x sh p) n v)))
                  case atStart => exact ⟨0, by omega, rfl, by rw [cL_zero]; rfl, W1.out⟩
                  case round =>
                    clear W1
                    obtain ⟨v, hv, rfl, rfl, hW⟩ := hrel
                    have HWv := (show Hid _ from hW)
                    clear hW
                    have hcl := cL_le (dg x sh p) v n
                    by_cases hv256 : v < 256
                    · have c2 := HWv.out.cnt.cell (p * 256 + v) (by omega)
                      have f2 := HWv.out.cnt.free (p * 256 + v)
                      rw [ovr_at F p _ hv256, stt_now] at c2
                      have hnx := cL_succ (dg x sh p) v n
                      have hcl2 := cL_le (dg x sh p) (v + 1) n
                      obtain ⟨cv, ecv⟩ : ∃ c, c = cE (dg x sh p) v n := ⟨_, rfl⟩
                      obtain ⟨lv, elv⟩ : ∃ c, c = cL (dg x sh p) v n := ⟨_, rfl⟩
                      rw [← ecv] at c2 hnx
                      rw [← elv] at hnx hcl
                      rw [← elv]
                      rw [hnx] at hcl2
                      have HNX := (show Hid _ from hnx)
                      have ELV := (show Hid _ from elv)
                      clear ecv elv hnx
                      go_wp2_with fail
                      go_quiet (fail)
                      go_wp2_with fail
                      go_roundg (gk - 1)
                      case measure => omega
                      case rel => exact ⟨v + 1, by omega, by go_num, by rw [HNX.out]; go_num, by rw [stt_step, ovr_upd F p _ hv256]; exact (HWv.out.drewN _).setCnt (by omega) _ (by rw [ELV.out])⟩
                    · have hve : v = 256 := by omega
                      subst hve
                      have W2 : Hid (Wd w wr Bg Bt Bs Bd n y z sh (ovr F p (nxt (dy y sp) n 0))) := scat_start HWv.out HST.out ESP.out
                      have SC0 : Hid (Sca y z (dy y sp) n 0) := fun j hj => by omega
                      clear HWv hcl HW
                      go_wp2_with fail
                      go_loopg [171] n (fun g iv ww => ∃ (i : Nat) (z : Nat → Key), i + g = n ∧ iv = .int .i64 i ∧ Wd w ww Bg Bt Bs Bd n y z sh (ovr F p (nxt (dy y sp) n i)) ∧ Sca y z (dy y sp) n i)
                      case atStart => exact ⟨0, z, by omega, rfl, W2.out, SC0.out⟩
                      case round =>
                        clear W2 SC0
                        obtain ⟨i, z, hi, rfl, hW, hS⟩ := hrel
                        have HWi := (show Hid _ from hW)
                        have HSi := (show Hid _ from hS)
                        clear hW hS
                        by_cases hin : i < n
                        · have c1 := HWi.out.src.ws i hin
                          have c2 := HWi.out.src.ats i hin
                          have hb := byt_int sp (y i).1
                          have hbl := byt_lt sp (y i).1
                          have hps := pos_lt (dy y sp) hin
                          have c3 := HWi.out.cnt.cell (p * 256 + byt sp (y i).1) (by omega)
                          rw [ovr_at F p _ hbl] at c3
                          have EP : Hid (nxt (dy y sp) n i (byt sp (y i).1) = pos (dy y sp) n i) := rfl
                          rw [EP.out] at c3
                          clear EP
                          obtain ⟨ps, eps⟩ : ∃ ps, ps = pos (dy y sp) n i := ⟨_, rfl⟩
                          obtain ⟨bb, ebb⟩ : ∃ bb, bb = byt sp (y i).1 := ⟨_, rfl⟩
                          obtain ⟨v, ev⟩ : ∃ v, v = (y i).1 := ⟨_, rfl⟩
                          obtain ⟨q, eq⟩ : ∃ q, q = (y i).2 := ⟨_, rfl⟩
                          rw [← eps] at c3 hps
                          rw [← ebb] at hb hbl c3
                          rw [← ev] at c1 hb
                          rw [← eq] at c2
                          have c4 := HWi.out.dst.ws ps hps
                          have c5 := HWi.out.dst.ats ps hps
                          have f4 := HWi.out.dst.free (ps * 2)
                          have f5 := HWi.out.dst.free (ps * 2 + 1)
                          have f3 := HWi.out.cnt.free (p * 256 + bb)
                          have EPS := (show Hid _ from eps)
                          have EBB := (show Hid _ from ebb)
                          have EV := (show Hid _ from ev)
                          have EQ := (show Hid _ from eq)
                          clear eps ebb ev eq
                          go_wp2_with fail
                          go_region
                          have W3 := scat_set (i := i) HWi.out hps EV.out EQ.out
                          have c6 := W3.cnt.cell (p * 256 + bb) (by omega)
                          have f6 := W3.cnt.free (p * 256 + bb)
                          have e6 : ovr F p (nxt (dy y sp) n i) (p * 256 + bb) = ps := by rw [ovr_at F p _ hbl, EPS.out, EBB.out]; rfl
                          rw [e6] at c6
                          have HW3 := (show Hid _ from W3)
                          have hpn : ps ≤ 32768 := by omega
                          clear W3 e6 c1 c2 c3 c4 c5 f3 f4 f5
                          go_wp2_with fail
                          go_region
                          go_wp2_with fail
                          go_roundg (gk - 1)
                          case measure => omega
                          case rel => exact ⟨i + 1, upd z ps (y i), by omega, by go_num, scat_step HW3.out (by omega) EBB.out EPS.out, by rw [EPS.out]; exact Sca.step hin HSi.out⟩
                        · have hie : n = i := by omega
                          subst hie
                          go_wp2_with fail
                          go_roundg (g7 - 1)
                          case measure => omega
                          case rel => exact ⟨p + 1, Bd, Bs, z, y, _, _, by omega, by go_num, rfl, rfl, HWi.out.swap, St.step HST.out (dy := dy y sp) (by rw [ESP.out]; exact HST.out.dy) HSi.out, cs_next HF.out⟩
                · have hpe : pl = p := by omega
                  subst hpe
                  have FIN : Hid (Srt y n ∧ (Srt x n → ∀ j, j < n → y j = x j) ∧ ∀ j, j < n → (y j).1 < 18446744073709551616) := fin_all HST.out PV.out HX.out
                  have hside := HW.out.side
                  have hn0 : 0 < n := by omega
                  clear HST HF
                  rcases hside with ⟨rfl, rfl⟩ | ⟨rfl, rfl⟩
                  · have hq := same_row HW.out.src.drew hn0
                    go_wp2_with fail
                    go_region
                    go_wp2_with fail
                    go_end0
                    exact ⟨rfl, y, z, FIN.out.1, FIN.out.2.1, FIN.out.2.2, HW.out.src.drew, HW.out.dst.drew, HW.out.only.drew⟩
                  · have hq := two_rows HW.out.src.drew HW.out.dst.drew hn0 (Ne.symm hne)
                    go_wp2_with fail
                    go_region
                    obtain ⟨v, w', hrun, r1, r2, r3⟩ := copy_keys (wr.drew) HW.out.src.drew (HW.out.dst.drew) (Ne.symm hne)
                    have HR1 := (show Hid _ from r1)
                    have HR2 := (show Hid _ from r2)
                    have HR3 := (show Hid _ from r3)
                    clear r1 r2 r3
                    go_wp2_with fail
                    go_end0
                    exact ⟨rfl, y, y, FIN.out.1, FIN.out.2.1, FIN.out.2.2, HR1.out, HR2.out, (HW.out.only.drew).trans (HR3.out.mono fun k hk => .inl hk)⟩
end Go.Proofs.Qxb6603421a
