import Derived.Test.Qxb6603421aPlain
namespace Go.Proofs.Qxb6603421a
set_option linter.unusedVariables false

/-! ### The places in which the keys differ -/
def sm (x : Nat → Key) : Nat → Nat
  | 0 => 18446744073709551615
  | i + 1 => sm x i &&& (x i).1
def df (x : Nat → Key) : Nat → Nat
  | 0 => 0
  | i + 1 => df x i ||| (x i).1
def byt (s w : Nat) : Nat := w / 2 ^ s % 256
theorem byt_lt (s w : Nat) : byt s w < 256 := Nat.mod_lt _ (by decide)
theorem byt_bit (s w t : Nat) : (byt s w).testBit t = (decide (t < 8) && w.testBit (s + t)) := by
  unfold byt
  rw [show (256 : Nat) = 2 ^ 8 from rfl, Nat.testBit_mod_two_pow, Nat.testBit_div_two_pow, Nat.add_comm]
theorem sm_bit {x : Nat → Key} {i n j : Nat} (hj : j < n) (h : (sm x n).testBit i = true) : (x j).1.testBit i = true := by
  induction n with
  | zero => omega
  | succ n ih =>
    simp only [sm, Nat.testBit_and, Bool.and_eq_true] at h
    by_cases he : j = n
    · rw [he]; exact h.2
    · exact ih (by omega) h.1
theorem df_bit {x : Nat → Key} {i n j : Nat} (hj : j < n) (h : (x j).1.testBit i = true) : (df x n).testBit i = true := by
  induction n with
  | zero => omega
  | succ n ih =>
    simp only [df, Nat.testBit_or, Bool.or_eq_true]
    by_cases he : j = n
    · rw [he] at h; exact .inr h
    · exact .inl (ih (by omega))
theorem sm_lt (x : Nat → Key) (n : Nat) : sm x n < 18446744073709551616 := by
  induction n with
  | zero => show 18446744073709551615 < _; omega
  | succ n ih => exact Nat.lt_of_le_of_lt Nat.and_le_left ih
theorem df_lt {x : Nat → Key} {n : Nat} (h : ∀ j, j < n → (x j).1 < 18446744073709551616) : df x n < 18446744073709551616 := by
  induction n with
  | zero => show 0 < _; omega
  | succ n ih => exact Nat.or_lt_two_pow (n := 64) (ih fun j hj => h j (by omega)) (h n (by omega))
theorem byte_eq_sm {x : Nat → Key} {s n j : Nat} (hj : j < n) (h : byt s (sm x n ^^^ df x n) = 0) : byt s (x j).1 = byt s (sm x n) := by
  apply Nat.eq_of_testBit_eq
  intro t
  have hb := byt_bit s (sm x n ^^^ df x n) t
  rw [h, Nat.zero_testBit] at hb
  rw [byt_bit, byt_bit]
  by_cases ht : t < 8
  · simp only [ht, decide_true, Bool.true_and] at hb ⊢
    rw [Nat.testBit_xor] at hb
    have h1 := sm_bit (x := x) (i := s + t) hj
    have h2 := df_bit (x := x) (i := s + t) hj
    revert hb h1 h2
    cases (sm x n).testBit (s + t) <;> cases (df x n).testBit (s + t) <;> cases (x j).1.testBit (s + t) <;> simp
  · simp [ht]
theorem same_byte {x : Nat → Key} {s n j k : Nat} (hj : j < n) (hk : k < n) (h : byt s (sm x n ^^^ df x n) = 0) : byt s (x j).1 = byt s (x k).1 := by
  rw [byte_eq_sm hj h, byte_eq_sm hk h]

/-- The digit of the j-th key at the p-th place. -/
def dg (x : Nat → Key) (sh : Nat → Nat) (p j : Nat) : Nat := byt (sh p) (x j).1
theorem lx_congr {D E : Nat → Nat → Nat} {p : Nat} (h : ∀ q, q < p → D q = E q) (j k : Nat) : lx D p j k ↔ lx E p j k := by
  induction p with
  | zero => exact Iff.rfl
  | succ p ih =>
    show (D p j < D p k ∨ (D p j = D p k ∧ lx D p j k)) ↔ (E p j < E p k ∨ (E p j = E p k ∧ lx E p j k))
    rw [h p (by omega), ih fun q hq => h q (by omega)]

structure PInv (x : Nat → Key) (n b pl : Nat) (sh : Nat → Nat) : Prop where
  le : pl ≤ b
  sh56 : ∀ p, p < pl → sh p ≤ 56
  ord : ∀ j k, j < n → k < n → (lx (dg x sh) pl j k ↔ (x j).1 % 2 ^ (8 * b) < (x k).1 % 2 ^ (8 * b) ∨ ((x j).1 % 2 ^ (8 * b) = (x k).1 % 2 ^ (8 * b) ∧ j < k))
theorem PInv.start (x : Nat → Key) (n : Nat) (sh : Nat → Nat) : PInv x n 0 0 sh :=
  ⟨Nat.le_refl _, fun p hp => by omega, fun j k _ _ => by
    show j < k ↔ _
    simp [Nat.mod_one]⟩
theorem top (w b : Nat) : w % 2 ^ (8 * (b + 1)) = w % 2 ^ (8 * b) + 2 ^ (8 * b) * byt (8 * b) w := by
  unfold byt
  rw [show 8 * (b + 1) = 8 * b + 8 by omega, Nat.pow_add, Nat.mod_mul]
theorem digits {m u v a c : Nat} (hu : u < m) (hv : v < m) : (u + m * a < v + m * c ↔ a < c ∨ (a = c ∧ u < v)) ∧ (u + m * a = v + m * c ↔ a = c ∧ u = v) := by
  rcases Nat.lt_trichotomy a c with h | h | h
  · have := Nat.mul_le_mul_left m (show a + 1 ≤ c by omega)
    rw [Nat.mul_add, Nat.mul_one] at this
    constructor <;> constructor <;> intro <;> omega
  · subst h
    constructor <;> constructor <;> intro <;> omega
  · have := Nat.mul_le_mul_left m (show c + 1 ≤ a by omega)
    rw [Nat.mul_add, Nat.mul_one] at this
    constructor <;> constructor <;> intro <;> omega
theorem PInv.skip {x : Nat → Key} {n b pl : Nat} {sh : Nat → Nat} (I : PInv x n b pl sh) (h : byt (8 * b) (sm x n ^^^ df x n) = 0) : PInv x n (b + 1) pl sh := by
  refine ⟨by have := I.le; omega, I.sh56, fun j k hj hk => ?_⟩
  rw [I.ord j k hj hk, top, top, ← same_byte hj hk h]
  have hp : 0 < 2 ^ (8 * b) := Nat.two_pow_pos _
  obtain ⟨h1, h2⟩ := digits (a := byt (8 * b) (x j).1) (c := byt (8 * b) (x j).1) (Nat.mod_lt (x j).1 hp) (Nat.mod_lt (x k).1 hp)
  rw [h1, h2]
  simp
theorem PInv.take {x : Nat → Key} {n b pl : Nat} {sh : Nat → Nat} (hb : b < 8) (I : PInv x n b pl sh) : PInv x n (b + 1) (pl + 1) (upd sh pl (8 * b)) := by
  refine ⟨by have := I.le; omega, fun p hp => ?_, fun j k hj hk => ?_⟩
  · unfold upd
    split
    · omega
    · exact I.sh56 p (by omega)
  · have hc : lx (dg x (upd sh pl (8 * b))) pl j k ↔ lx (dg x sh) pl j k := lx_congr (fun q hq => by
      funext i
      unfold dg upd
      rw [if_neg (by omega)]) j k
    have e : ∀ i, dg x (upd sh pl (8 * b)) pl i = byt (8 * b) (x i).1 := fun i => by unfold dg upd; rw [if_pos rfl]
    show (dg x (upd sh pl (8 * b)) pl j < dg x (upd sh pl (8 * b)) pl k ∨ (dg x (upd sh pl (8 * b)) pl j = dg x (upd sh pl (8 * b)) pl k ∧ lx (dg x (upd sh pl (8 * b))) pl j k)) ↔ _
    rw [hc, I.ord j k hj hk, e, e, top, top]
    have hp : 0 < 2 ^ (8 * b) := Nat.two_pow_pos _
    obtain ⟨h1, h2⟩ := digits (a := byt (8 * b) (x j).1) (c := byt (8 * b) (x k).1) (Nat.mod_lt (x j).1 hp) (Nat.mod_lt (x k).1 hp)
    rw [h1, h2]
    constructor
    · rintro (h | ⟨h, h' | h'⟩)
      · exact .inl (.inl h)
      · exact .inl (.inr ⟨h, h'⟩)
      · exact .inr ⟨⟨h, h'.1⟩, h'.2⟩
    · rintro ((h | h) | h)
      · exact .inl h
      · exact .inr ⟨h.1, .inl h.2⟩
      · exact .inr ⟨h.1.1, .inr ⟨h.1.2, h.2⟩⟩
theorem PInv.all {x : Nat → Key} {n pl : Nat} {sh : Nat → Nat} (I : PInv x n 8 pl sh) (hw : ∀ j, j < n → (x j).1 < 18446744073709551616) (j k : Nat) (hj : j < n) (hk : k < n) :
    lx (dg x sh) pl j k ↔ (x j).1 < (x k).1 ∨ ((x j).1 = (x k).1 ∧ j < k) := by
  have := I.ord j k hj hk
  rwa [Nat.mod_eq_of_lt (show (x j).1 < 2 ^ (8 * 8) from hw j hj), Nat.mod_eq_of_lt (show (x k).1 < 2 ^ (8 * 8) from hw k hk)] at this

/-! ### One pass: the keys' counts, the starts, the scatter -/
/-- The starts: the counts below v are starts already. -/
def stt (d : Nat → Nat) (n v u : Nat) : Nat := if u < v then cL d u n else cE d u n
theorem stt_step (d : Nat → Nat) (n v : Nat) : stt d n (v + 1) = upd (stt d n v) v (cL d v n) := by
  funext u
  unfold stt upd
  by_cases h : u = v
  · subst h; simp
  · by_cases h2 : u < v
    · rw [if_pos (by omega), if_neg h]; exact (if_pos h2).symm
    · rw [if_neg (by omega), if_neg h]; exact (if_neg h2).symm
/-- Where the next key of the byte u goes, the first i keys laid. -/
def nxt (d : Nat → Nat) (n i u : Nat) : Nat := cL d u n + cE d u i
theorem nxt_step (d : Nat → Nat) (n i : Nat) : nxt d n (i + 1) = upd (nxt d n i) (d i) (nxt d n i (d i) + 1) := by
  funext u
  unfold nxt upd
  by_cases h : u = d i
  · rw [if_pos h, h, cE_hit d rfl]; omega
  · rw [if_neg h, cE_miss d (Ne.symm h)]
theorem nxt_pos (d : Nat → Nat) (n i : Nat) : nxt d n i (d i) = pos d n i := rfl
def Sca (y z : Nat → Key) (d : Nat → Nat) (n i : Nat) : Prop := ∀ j, j < i → z (pos d n j) = y j
theorem Sca.step {y z : Nat → Key} {d : Nat → Nat} {n i : Nat} (hi : i < n) (h : Sca y z d n i) : Sca y (upd z (pos d n i) (y i)) d n (i + 1) := by
  intro j hj
  unfold upd
  by_cases he : j = i
  · rw [he, if_pos rfl]
  · rw [if_neg (fun hh => he (pos_inj d (by omega) hi hh))]
    exact h j (by omega)
end Go.Proofs.Qxb6603421a
