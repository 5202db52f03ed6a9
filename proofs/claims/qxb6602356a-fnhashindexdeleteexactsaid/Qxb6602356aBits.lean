import Derived.Test.Qxb6602356aPlain2
import Derived.Laws.Bits128
import Derived.Laws.Bits64b
import Derived.WalkSmall
namespace Go.Proofs.Qxb6602356a.Hx
open Go

/-- '& (2^m - 1)' is the remainder by 2^m, of a negative number too. -/
theorem and_mask {m n : Nat} (hm : m ≤ 16) (hn : n = 2 ^ m) (x : Int) : bits .and .i64 x ((n : Int) - 1) = x % n := by
  have hle : 2 ^ m ≤ 2 ^ 16 := Nat.pow_le_pow_right (by decide) hm
  have hpos : 0 < 2 ^ m := Nat.two_pow_pos m
  have hle2 : n ≤ 65536 := by rw [hn]; exact hle
  have hnp : 0 < n := by rw [hn]; exact hpos
  have e1 : ((n : Int) - 1) = ((2 ^ m - 1 : Nat) : Int) := by rw [hn]; omega
  have h1 : (BitVec.ofInt 64 ((n : Int) - 1)).toNat = 2 ^ m - 1 := by
    rw [e1, BitVec.ofInt_natCast, BitVec.toNat_ofNat]
    exact Nat.mod_eq_of_lt (by rw [hn] at hle2; omega)
  have key : (BitVec.ofInt 64 x &&& BitVec.ofInt 64 ((n : Int) - 1)).toNat = (x % ((2 ^ 64 : Nat) : Int)).toNat % 2 ^ m := by
    rw [BitVec.toNat_and, BitVec.toNat_ofInt, h1, Nat.and_two_pow_sub_one_eq_mod]
  show IntKind.i64.wrap ((BitVec.ofInt 64 x &&& BitVec.ofInt 64 ((n : Int) - 1)).toNat : Nat) = x % n
  rw [key, IntKind.wrap_i64, ← hn]
  have hd : ((n : Nat) : Int) ∣ ((2 ^ 64 : Nat) : Int) := by
    rw [hn]
    exact Int.natCast_dvd_natCast.2 (Nat.pow_dvd_pow 2 (by omega))
  have h2 : (((x % ((2 ^ 64 : Nat) : Int)).toNat % n : Nat) : Int) = x % n := by
    have h3 := Int.emod_nonneg x (b := ((2 ^ 64 : Nat) : Int)) (by decide)
    rw [Int.natCast_emod, Int.toNat_of_nonneg h3]
    exact Int.emod_emod_of_dvd x hd
  rw [h2]
  have h4 := Int.emod_nonneg x (b := (n : Int)) (by omega)
  have h5 := Int.emod_lt_of_pos x (b := (n : Int)) (by omega)
  omega

theorem adv_mod {n a k : Nat} (ha : a < n) (hk : k ≤ n) : ((a : Int) + (k : Int)) % (n : Int) = (adv n a k : Nat) := by
  unfold adv
  split
  · rw [Int.emod_eq_of_lt (by omega) (by omega)]; omega
  · rw [show ((a : Int) + (k : Int)) = ((a + k - n : Nat) : Int) + (n : Int) by omega, Int.add_emod_right, Int.emod_eq_of_lt (by omega) (by omega)]
theorem dst_mod {n a b : Nat} (ha : a < n) (hb : b < n) : ((b : Int) - (a : Int)) % (n : Int) = (dst n a b : Nat) := by
  unfold dst
  split
  · rw [Int.emod_eq_of_lt (by omega) (by omega)]; omega
  · have : ((b : Int) - (a : Int)) = ((b + n - a : Nat) : Int) + (n : Int) * (-1) := by omega
    rw [this, Int.add_mul_emod_self_left, Int.emod_eq_of_lt (by omega) (by omega)]
theorem hom_mod {n : Nat} (hn : 0 < n) (v : Int) : (v / 2) % (n : Int) = (hom n v : Nat) := by
  unfold hom
  have := Int.emod_nonneg (v / 2) (b := (n : Int)) (by omega)
  omega

theorem or_one (h : Int) (h0 : 0 ≤ h) (h1 : h ≤ 18446744073709551615) : bits .or .u64 h 1 = h / 2 * 2 + 1 := by
  have h2 := bits_or_u64_nat h.toNat 1 (by omega) (by omega)
  rw [Int.toNat_of_nonneg h0] at h2
  have h3 : (h.toNat ||| 1) = h.toNat / 2 * 2 + 1 := by
    have a1 : (h.toNat ||| 1) / 2 = h.toNat / 2 := by rw [Nat.or_div_two]; simp
    have a2 : (h.toNat ||| 1) % 2 = 1 := by simp [Nat.or_mod_two_eq_one]
    omega
  rw [h3] at h2
  have h4 : ((1 : Nat) : Int) = 1 := rfl
  rw [h4] at h2
  rw [h2]
  omega

/-- A number that has no bit in common with the one below it is a power of two. -/
theorem pow_of_and : ∀ (k n : Nat), 1 ≤ n → n < 2 ^ k → n &&& (n - 1) = 0 → ∃ m, m < k ∧ n = 2 ^ m
  | 0, n, h1, h2, _ => by simp at h2; omega
  | k + 1, n, h1, h2, h3 => by
    by_cases hn1 : n = 1
    · exact ⟨0, by omega, by rw [hn1]⟩
    · have hd : n / 2 &&& ((n - 1) / 2) = 0 := by rw [← Nat.and_div_two, h3]
      by_cases hodd : n % 2 = 1
      · exfalso
        have e : (n - 1) / 2 = n / 2 := by omega
        rw [e, Nat.and_self] at hd
        omega
      · have e : (n - 1) / 2 = n / 2 - 1 := by omega
        rw [e] at hd
        obtain ⟨m, hm, hnm⟩ := pow_of_and k (n / 2) (by omega) (by rw [Nat.pow_succ] at h2; omega) hd
        exact ⟨m + 1, by omega, by rw [Nat.pow_succ, ← hnm]; omega⟩

theorem and_pred (n : Nat) (h1 : 1 ≤ n) (h2 : n ≤ 65536) : bits .and .i64 (n : Int) ((n : Int) - 1) = ((n &&& (n - 1) : Nat) : Int) := by
  have hw : ∀ x : Int, 0 ≤ x → x < 2 ^ 62 → IntKind.i64.wrap x = x := fun x a b => by rw [IntKind.wrap_i64]; omega
  have := (bits_nat .i64 62 (by decide) hw n (n - 1) (by omega) (by omega)).1
  rw [← this]
  congr 1
  omega

theorem pow_two (n : Nat) (h1 : 1 ≤ n) (h2 : n ≤ 65536) (h : bits .and .i64 (n : Int) ((n : Int) - 1) = 0) : ∃ m, m ≤ 16 ∧ n = 2 ^ m := by
  rw [and_pred n h1 h2] at h
  obtain ⟨m, hm, e⟩ := pow_of_and 17 n h1 (by omega) (by omega)
  exact ⟨m, by omega, e⟩
end Go.Proofs.Qxb6602356a.Hx
