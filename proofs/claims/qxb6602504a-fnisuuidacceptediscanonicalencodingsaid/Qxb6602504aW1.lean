import Derived.Test.Qxb6602504aRows
import Derived.Test.Qxb6602504aPlain
import Derived.WalkKit
import Derived.WalkSpells
import Derived.WalkLawsBesides
namespace Go.Proofs.Qxb6602504a
open Go.RowKit Ux
set_option linter.unusedVariables false

theorem ret_bool {a b : Bool} (h : a = b) : Ending.returned (.bool a) = .returned (.bool b) := by rw [h]
theorem ret_int {k : IntKind} {a b : Int} (h : a = b) : Ending.returned (.int k a) = .returned (.int k b) := by rw [h]
/-- It has returned a Bool of which Q holds. -/
def Says (Q : Bool → Prop) (e : Ending) : Prop := ∃ r, e = .returned (.bool r) ∧ Q r

theorem digits_at (k : Nat) (h : k < 16) (h' : k < (ByteArray.mk #[48, 49, 50, 51, 52, 53, 54, 55, 56, 57, 97, 98, 99, 100, 101, 102]).size) : (((ByteArray.mk #[48, 49, 50, 51, 52, 53, 54, 55, 56, 57, 97, 98, 99, 100, 101, 102])[k]'h').toNat : Int) = hd k := by
  rcases (show k = 0 ∨ k = 1 ∨ k = 2 ∨ k = 3 ∨ k = 4 ∨ k = 5 ∨ k = 6 ∨ k = 7 ∨ k = 8 ∨ k = 9 ∨ k = 10 ∨ k = 11 ∨ k = 12 ∨ k = 13 ∨ k = 14 ∨ k = 15 by omega) with
    rfl | rfl | rfl | rfl | rfl | rfl | rfl | rfl | rfl | rfl | rfl | rfl | rfl | rfl | rfl | rfl <;> rfl

def okLen (n : Nat) : Bool := decide (n ≤ 1048576)
set_option maxHeartbeats 400000 in
theorem bytes_any (s : ByteArray) (hs : s.size ≤ maxLen) (w : World) :
    Calls Try.prog 14 #[.string s] w fun e w' => e = .returned (.bool (okLen s.size)) ∧ w = w' := by
  unfold maxLen at hs
  go_enter Try.func14, Try.ntmps14
  go_wp2
  all_goals
    go_ret
    first
      | exact ⟨ret_bool (decide_eq_false (by omega)).symm, rfl⟩
      | exact ⟨ret_bool (decide_eq_true (by omega)).symm, rfl⟩

def isHex (c : Int) : Bool := decide ((48 ≤ c ∧ c ≤ 57) ∨ (97 ≤ c ∧ c ≤ 102))
set_option maxHeartbeats 400000 in
theorem hex_any (c : Int) (h0 : 0 ≤ c) (h1 : c ≤ 255) (w : World) :
    Calls Try.prog 17 #[.int .u8 c] w fun e w' => e = .returned (.bool (isHex c)) ∧ w = w' := by
  go_enter Try.func17, Try.ntmps17
  go_wp2
  all_goals
    go_ret
    refine ⟨ret_bool ?_, rfl⟩
    unfold isHex
    rw [Bool.eq_iff_iff]
    simp
    try omega

set_option maxHeartbeats 400000 in
theorem idx_any (c : Int) (m : Nat) (hm : m < 16) (hc : Hid (c = hd m)) (h0 : 0 ≤ c) (h1 : c ≤ 255) (w : World) :
    Calls Try.prog 15 #[.int .u8 c] w fun e w' => e = .returned (.int .i64 m) ∧ w = w' := by
  go_enter Try.func15, Try.ntmps15
  go_wp2
  go_loop [3] (fun i => ∃ k : Nat, k ≤ m ∧ i = .int .i64 k) (fun i => 16 - (intOf i).toNat)
  case atStart => exact ⟨0, by omega, rfl⟩
  case round =>
    obtain ⟨k, hk, rfl⟩ := hrel
    have hk16 : k < 16 := by omega
    have hdig := digits_at k hk16
    by_cases hlt : k < m
    · have hb : (hd k == c) = false := by
        rw [hc.out]
        simp only [beq_eq_false_iff_ne]
        exact fun e => absurd (hd_inj hk16 hm e) (by omega)
      go_wp2
      go_round
      case rel => exact ⟨k + 1, by omega, by go_num⟩
      case measure => simp [intOf]; omega
    · have hb : (hd k == c) = true := by
        rw [hc.out, show k = m by omega]
        simp
      go_wp2
      go_ret
      exact ⟨ret_int (by omega), rfl⟩

theorem ok_next {s : ByteArray} {k : Nat} (H : ∀ j, j < k → OkAt s j) (hk : OkAt s k) : ∀ j, j < k + 1 → OkAt s j := fun j hj => by
  by_cases hjk : j = k
  · rw [hjk]; exact hk
  · exact H j (by omega)
theorem ok_dash {s : ByteArray} {k : Nat} (hc : chr s k = 45) (h : ((k : Int) == 8) = true ∨ ((k : Int) == 13) = true ∨ ((k : Int) == 18) = true ∨ ((k : Int) == 23) = true) : OkAt s k := by
  refine ⟨fun _ => hc, fun hn => absurd ?_ hn⟩
  simp only [beq_iff_eq] at h
  unfold isDash
  omega
theorem ok_hex {s : ByteArray} {k : Nat} (hc : (!isHex (chr s k)) = false) (h1 : ((k : Int) == 8) = false) (h2 : ((k : Int) == 13) = false) (h3 : ((k : Int) == 18) = false) (h4 : ((k : Int) == 23) = false) : OkAt s k := by
  simp only [beq_eq_false_iff_ne] at h1 h2 h3 h4
  refine ⟨fun hd => ?_, fun _ => ?_⟩
  · unfold isDash at hd; omega
  · have h5 : isHex (chr s k) = true := by simpa using hc
    exact of_decide_eq_true h5

set_option maxHeartbeats 1000000 in
theorem uuid_any (s : ByteArray) (hs : s.size ≤ 1048576) (w : World) :
    Calls Try.prog 10 #[.string s] w fun e w' => Says (fun r => r = true → Uuid s) e ∧ w = w' := by
  by_cases h36 : s.size = 36
  · have hb36 : ((s.size : Int) != 36) = false := by simp; omega
    have hlo : s.size ≤ 36 := by omega
    have hhi : 36 ≤ s.size := by omega
    have H36 := (show Hid _ from h36)
    clear h36
    go_enter Try.func10, Try.ntmps10
    go_wp2_with fail
    go_loop [3] (fun i => ∃ k : Nat, k ≤ 36 ∧ i = .int .i64 k ∧ ∀ j, j < k → OkAt s j) (fun i => 36 - (intOf i).toNat)
    case atStart => exact ⟨0, by omega, rfl, fun j hj => by omega⟩
    case round =>
      obtain ⟨k, hk, rfl, hok⟩ := hrel
      have HK := (show Hid _ from hok)
      clear hok
      by_cases hlt : k < 36
      · have hks : k < s.size := by omega
        have hch := chr_at s k hks
        have hbd := chr_bd s k
        obtain ⟨c, ec⟩ : ∃ c, c = chr s k := ⟨_, rfl⟩
        rw [← ec] at hch hbd
        have EC := (show Hid _ from ec)
        clear ec
        go_wp2_with (go_at_call 17; refine (hex_any _ hbd.1 hbd.2 _).mono ?_; rintro e w' ⟨rfl, rfl⟩)
        all_goals first
          | (go_ret
             exact ⟨⟨false, rfl, fun h => absurd h Bool.false_ne_true⟩, rfl⟩)
          | (have t1 : (c != 45) = false := by assumption
             go_round
             case rel => exact ⟨k + 1, by omega, by go_num, ok_next HK.out (ok_dash (by rw [← EC.out]; simpa using t1) (by first | exact .inl ‹_› | exact .inr (.inl ‹_›) | exact .inr (.inr (.inl ‹_›)) | exact .inr (.inr (.inr ‹_›))))⟩
             case measure => simp [intOf]; omega)
          | (have t1 : (!isHex c) = false := by assumption
             go_round
             case rel => exact ⟨k + 1, by omega, by go_num, ok_next HK.out (ok_hex (by rw [← EC.out]; exact t1) ‹_› ‹_› ‹_› ‹_›)⟩
             case measure => simp [intOf]; omega)
      · go_wp2_with fail
        go_ret
        exact ⟨⟨true, rfl, fun _ => ⟨H36.out, fun j hj => HK.out j (by omega)⟩⟩, rfl⟩
  · have hb36 : ((s.size : Int) != 36) = true := by simp; omega
    go_enter Try.func10, Try.ntmps10
    go_wp2_with fail
    go_ret
    exact ⟨⟨false, rfl, fun h => absurd h Bool.false_ne_true⟩, rfl⟩
end Go.Proofs.Qxb6602504a
