import Derived.Test.Qxb6602504aW2
import Derived.Deep.DeepCutAuto
namespace Go.Proofs.Qxb6602504a
open Go.RowKit Ux
set_option linter.unusedVariables false

theorem block_set {w : World} {b o : Nat} {cs : Array Value} {t : TypeId} {fr : Nat × Nat} {v : Value} (h : w.heap[b]? = some (.cells cs t fr)) : (w.setCell ⟨b, o, none⟩ v).heap[b]? = some (.cells (cs.setIfInBounds o v) t fr) := by
  simp only [World.setCell, Array.getElem?_modify, if_true, h]
  rfl

theorem arr16_set (x y : Nat → Int) (i : Nat) (v : Int) (hi : i < 16) (h : ∀ j, y j = if j = i then v else x j) : (arr16 x).setIfInBounds i (.int .u8 v) = arr16 y := by
  apply Array.ext'
  apply List.ext_getElem?
  intro j
  rw [Array.getElem?_toList, Array.getElem?_toList]
  by_cases hj : j < 16
  · rw [arr16_get y hj]
    by_cases hji : j = i
    · subst hji
      rw [Array.getElem?_setIfInBounds_self_of_lt (by rw [arr16_size]; exact hi), h j, if_pos rfl]
    · rw [Array.getElem?_setIfInBounds_ne (Ne.symm hji), arr16_get x hj, h j, if_neg hji]
  · rw [Array.getElem?_eq_none (by rw [Array.size_setIfInBounds, arr16_size]; omega), Array.getElem?_eq_none (by rw [arr16_size]; omega)]

theorem arr16_zero : (#[.int .u8 0, .int .u8 0, .int .u8 0, .int .u8 0, .int .u8 0, .int .u8 0, .int .u8 0, .int .u8 0, .int .u8 0, .int .u8 0, .int .u8 0, .int .u8 0, .int .u8 0, .int .u8 0, .int .u8 0, .int .u8 0] : Array Value) = arr16 (fun _ => 0) := rfl

theorem size26 : (Try.prog.info? 26).map (·.size) = some 16 := by kernel_rfl

theorem fmt_uuid (s : ByteArray) (U : Uuid s) (x : Nat → Int) (ex : x = bv (nib s) 32) (w : World) :
    Calls Try.prog 12 #[.agg (arr16 x)] w fun e w' => e = .returned (.string s) ∧ Below w.heap.size w w' := by
  have h := fmt_any x (by rw [ex]; exact fun j hj => bv_bd (fun t ht => (nib_lt U ht).1) hj) w
  have e : mkS (FL x 16) = s := by rw [ex]; exact text_again U
  rw [e] at h
  exact h

/-- What the law's loop knows of the world: the sixteen bytes, n nibbles read. -/
structure Rd (w ww : World) (x : Nat → Int) : Prop where
  blk : ww.heap[w.heap.size]? = some (.cells (arr16 x) 26 (0, 0))
  bel : Below w.heap.size w ww
theorem Rd.cell {w ww : World} {x : Nat → Int} (R : Rd w ww x) {j : Nat} (hj : j < 16) : ww.cell? ⟨w.heap.size, j, none⟩ = some (.int .u8 (x j)) := by
  simp only [World.cell?, R.blk]
  simpa using arr16_get x hj
theorem Rd.free {w ww : World} {x : Nat → Int} (R : Rd w ww x) (o : Nat) : ww.frozen? ⟨w.heap.size, o, none⟩ = false := by
  simp [World.frozen?, R.blk]
theorem Rd.set {w ww : World} {x y : Nat → Int} (R : Rd w ww x) {i : Nat} {v : Int} (hi : i < 16) (h : ∀ j, y j = if j = i then v else x j) : Rd w (ww.setCell ⟨w.heap.size, i, none⟩ (.int .u8 v)) y :=
  ⟨by rw [block_set R.blk, arr16_set x y i v hi h], R.bel.setCell (Nat.le_refl _) _⟩

theorem or16 {t m : Nat} (ht : t < 16) (hm : m < 16) : bits .or .u8 (16 * (t : Int)) (m : Int) = 16 * (t : Int) + (m : Int) := by
  have h := u8_or_nat (16 * t) m (by omega) (by omega)
  have e : (16 * t ||| m) = 16 * t + m := by
    have := Nat.two_pow_add_eq_or_of_lt (i := 4) (b := m) (by omega) t
    rw [show 16 * t = 2 ^ 4 * t from rfl]
    omega
  rw [e] at h
  have e2 : (((16 * t : Nat)) : Int) = 16 * (t : Int) := by omega
  rw [e2] at h
  rw [h]
  omega
theorem rd_start (w : World) (s : ByteArray) : Rd w (w.alloc (.cells #[.int .u8 0, .int .u8 0, .int .u8 0, .int .u8 0, .int .u8 0, .int .u8 0, .int .u8 0, .int .u8 0, .int .u8 0, .int .u8 0, .int .u8 0, .int .u8 0, .int .u8 0, .int .u8 0, .int .u8 0, .int .u8 0] 26)) (bv (nib s) 0) := by
  refine ⟨?_, (Below.refl _ _).alloc (Nat.le_refl _) _⟩
  rw [heap_alloc_new, arr16_zero]
  have : (fun _ => 0) = bv (nib s) 0 := by funext j; rw [bv_zero]
  rw [this]

theorem even_step {N : Nat → Nat} {n m : Nat} {v : Int} (hev : n % 2 = 0) (hm : N n = m) (hv : v = 16 * (m : Int)) : ∀ j, bv N (n + 1) j = if j = n / 2 then v else bv N n j := fun j => by
  rw [bv_even hev, hm, hv]
theorem odd_step {N : Nat → Nat} {n m : Nat} {v : Int} (hod : n % 2 = 1) (hm : N n = m) (hv : v = bv N n (n / 2) + (m : Int)) : ∀ j, bv N (n + 1) j = if j = n / 2 then v else bv N n j := fun j => by
  rw [bv_odd hod, hm, hv]
  by_cases hj : j = n / 2
  · rw [if_pos hj, if_pos hj, hj]
  · rw [if_neg hj, if_neg hj]

set_option maxHeartbeats 2000000 in
theorem main_any (s : ByteArray) (hs : s.size ≤ 1048576) (w : World) :
    Calls Try.prog 6 #[.string s] w fun e w' => e = .returned (.bool true) ∧ Below w.heap.size w w' := by
  have hok : okLen s.size = true := decide_eq_true hs
  go_enter Try.func6, Try.ntmps6
  go_upto_if 16 with (first
    | (go_at_call 14; refine (bytes_any s (by unfold maxLen; omega) _).mono ?_; rintro e w' ⟨rfl, rfl⟩)
    | (go_at_call 10; refine (uuid_any s hs _).mono ?_; rintro e w' ⟨⟨r, rfl, hr⟩, rfl⟩))
  cases r with
  | false =>
    go_wp2_with fail
    go_ret
    exact ⟨rfl, Below.refl _ _⟩
  | true =>
    have U := hr rfl
    have HU := (show Hid _ from U)
    have h36 : s.size ≤ 36 ∧ 36 ≤ s.size := by have := U.1; omega
    clear U hr
    go_wp2_with fail
    have R0 : Hid (Rd w (w.alloc (.cells #[.int .u8 0, .int .u8 0, .int .u8 0, .int .u8 0, .int .u8 0, .int .u8 0, .int .u8 0, .int .u8 0, .int .u8 0, .int .u8 0, .int .u8 0, .int .u8 0, .int .u8 0, .int .u8 0, .int .u8 0, .int .u8 0] 26)) (bv (nib s) 0)) := rd_start w s
    go_loopg [4, 5] 36 (fun gk' nn i ww => ∃ k : Nat, k + gk' = 36 ∧ i = .int .i64 k ∧ nn = .int .i64 (cnt k : Nat) ∧ Rd w ww (bv (nib s) (cnt k)))
    case atStart => exact ⟨0, by omega, rfl, rfl, R0.out⟩
    case round =>
      clear R0
      obtain ⟨k, hk, rfl, rfl, hR⟩ := hrel
      have HR := (show Hid _ from hR)
      clear hR
      by_cases hlt : k < 36
      · have hks : k < s.size := by omega
        have hch := chr_at s k hks
        have hbd := chr_bd s k
        obtain ⟨c, ec⟩ : ∃ c, c = chr s k := ⟨_, rfl⟩
        rw [← ec] at hch hbd
        have EC := (show Hid _ from ec)
        clear ec
        by_cases hda : isDash k
        · have hc45 : (c == 45) = true := by
            have := (HU.out.2 k hlt).1 hda
            rw [← EC.out] at this
            simpa using this
          have CN : Hid (cnt (k + 1) = cnt k) := cnt_dash hda
          clear hda
          go_wp2_with fail
          go_roundg (gk - 1)
          case measure => omega
          case rel => exact ⟨k + 1, by omega, by go_num, by rw [CN.out], by rw [CN.out]; exact HR.out⟩
        · have hcx := (HU.out.2 k hlt).2 hda
          have hnx := cnt_next hda
          have hn32 := cnt_lt hda hlt
          have hna := nib_at (s := s) hda hlt
          rw [← EC.out] at hcx hna
          obtain ⟨hm16, hme⟩ := hv_hd hcx
          obtain ⟨m, em⟩ : ∃ m, m = hv c := ⟨_, rfl⟩
          rw [← em] at hm16 hme hna
          have hc45 : (c == 45) = false := by simp only [beq_eq_false_iff_ne]; omega
          obtain ⟨n, en⟩ : ∃ n, n = cnt k := ⟨_, rfl⟩
          rw [← en] at hn32 hnx hna
          rw [← en]
          have HME : Hid (c = hd m) := hme.symm
          have HNA := (show Hid _ from hna)
          have HNX := (show Hid _ from hnx)
          have HRn : Hid (Rd w wr (bv (nib s) n)) := by rw [en]; exact HR.out
          clear hcx hnx hna hme em en hda HR
          have cc := HRn.out.cell (j := n / 2) (by omega)
          have ff := HRn.out.free (n / 2)
          by_cases hev : n % 2 = 0
          · have hevb : ((n : Int) % 2 == 0) = true := by simp; omega
            go_wp2_with (go_at_call 15; refine (idx_any c m hm16 HME hbd.1 hbd.2 _).mono ?_; rintro e w' ⟨rfl, rfl⟩)
            go_roundg (gk - 1)
            case measure => omega
            case rel => exact ⟨k + 1, by omega, by go_num, by rw [HNX.out]; go_num, HRn.out.set (by omega) (by rw [HNX.out]; exact even_step hev HNA.out (by omega))⟩
          · have hevb : ((n : Int) % 2 == 0) = false := by simp; omega
            have hhalf := bv_half (N := nib s) (n := n) (by omega)
            rw [hhalf] at cc
            have hN1 : nib s (n - 1) < 16 := (nib_lt HU.out (by omega)).1
            have hor : bits .or .u8 (16 * (nib s (n - 1) : Int)) (m : Int) = 16 * (nib s (n - 1) : Int) + (m : Int) := or16 hN1 hm16
            obtain ⟨t, et⟩ : ∃ t, t = nib s (n - 1) := ⟨_, rfl⟩
            rw [← et] at cc hN1 hor
            have ET := (show Hid _ from et)
            have HHF := (show Hid _ from hhalf)
            clear et hhalf
            go_wp2_with (go_at_call 15; refine (idx_any c m hm16 HME hbd.1 hbd.2 _).mono ?_; rintro e w' ⟨rfl, rfl⟩)
            go_roundg (gk - 1)
            case measure => omega
            case rel => exact ⟨k + 1, by omega, by go_num, by rw [HNX.out]; go_num, HRn.out.set (by omega) (by rw [HNX.out]; exact odd_step (by omega) HNA.out (by rw [HHF.out, ← ET.out]))⟩
      · have hge : s.size ≤ k := by omega
        have e32 : cnt k = 32 := by rw [show k = 36 by omega]; rfl
        obtain ⟨x32, ex32⟩ : ∃ x, x = bv (nib s) (cnt k) := ⟨_, rfl⟩
        have EX : Hid (x32 = bv (nib s) 32) := by rw [ex32, e32]; exact rfl
        have HRx : Hid (Rd w wr x32) := by rw [ex32]; exact HR.out
        obtain ⟨n, en⟩ : ∃ n, n = cnt k := ⟨_, rfl⟩
        rw [← en]
        have hnb : ((n : Int) != 32) = false := by rw [en, e32]; simp
        clear en ex32 e32 HR hlt
        go_wp2_with (first
          | (refine wpList_load_row rfl 26 (.tmp 3) rfl w.heap.size rfl 26 (arr16 x32) (0, 0) _ HRx.out.blk Try.underlying26 rfl (by rw [arr16_size]; exact size26) ?_)
          | (go_at_call 12; refine (fmt_uuid s HU.out x32 EX.out _).mono ?_; rintro e w' ⟨rfl, hB⟩; have HBB := (show Hid _ from hB); clear hB))
        go_ret
        refine ⟨ret_bool (by simp), ?_⟩
        exact HRx.out.bel.trans (HBB.out.mono HRx.out.bel.size)
end Go.Proofs.Qxb6602504a
