import Derived.Test.Qxb6603421aProg
namespace Go.Proofs.Qxb6603421a
set_option linter.unusedVariables false

/-! ### Counting -/
def cE (d : Nat → Nat) (v : Nat) : Nat → Nat
  | 0 => 0
  | n + 1 => cE d v n + if d n = v then 1 else 0
def cL (d : Nat → Nat) (v : Nat) : Nat → Nat
  | 0 => 0
  | n + 1 => cL d v n + if d n < v then 1 else 0

theorem cL_succ (d : Nat → Nat) (v n : Nat) : cL d (v + 1) n = cL d v n + cE d v n := by
  induction n with
  | zero => rfl
  | succ n ih =>
    simp only [cL, cE, ih]
    by_cases h1 : d n < v
    · rw [if_pos h1, if_pos (by omega), if_neg (by omega)]; omega
    · by_cases h2 : d n = v
      · rw [if_neg h1, if_pos (by omega), if_pos h2]; omega
      · rw [if_neg h1, if_neg (by omega), if_neg h2]; omega
theorem cL_zero (d : Nat → Nat) (n : Nat) : cL d 0 n = 0 := by
  induction n with
  | zero => rfl
  | succ n ih => simp [cL, ih]
theorem cL_le (d : Nat → Nat) (v n : Nat) : cL d v n ≤ n := by
  induction n with
  | zero => exact Nat.le_refl _
  | succ n ih => simp only [cL]; split <;> omega
theorem cE_le (d : Nat → Nat) (v n : Nat) : cE d v n ≤ n := by
  have := cL_le d (v + 1) n
  rw [cL_succ] at this
  omega
theorem cL_mono (d : Nat → Nat) (n : Nat) {v u : Nat} (h : v ≤ u) : cL d v n ≤ cL d u n := by
  induction u with
  | zero => rw [show v = 0 by omega]; exact Nat.le_refl _
  | succ u ih =>
    by_cases he : v = u + 1
    · rw [he]; exact Nat.le_refl _
    · have := ih (by omega)
      rw [cL_succ]; omega
theorem cE_mono (d : Nat → Nat) (v : Nat) {i n : Nat} (h : i ≤ n) : cE d v i ≤ cE d v n := by
  induction n with
  | zero => rw [show i = 0 by omega]; exact Nat.le_refl _
  | succ n ih =>
    by_cases he : i = n + 1
    · rw [he]; exact Nat.le_refl _
    · have := ih (by omega)
      simp only [cE]; omega
theorem cE_hit (d : Nat → Nat) {v j : Nat} (h : d j = v) : cE d v (j + 1) = cE d v j + 1 := by simp [cE, h]
theorem cE_miss (d : Nat → Nat) {v j : Nat} (h : d j ≠ v) : cE d v (j + 1) = cE d v j := by simp [cE, h]
theorem cE_lt (d : Nat → Nat) {v j n : Nat} (hj : j < n) (h : d j = v) : cE d v j < cE d v n := by
  have := cE_mono d v (show j + 1 ≤ n by omega)
  rw [cE_hit d h] at this
  omega

/-- Where the j-th of n keys goes in a stable pass. -/
def pos (d : Nat → Nat) (n j : Nat) : Nat := cL d (d j) n + cE d (d j) j
theorem pos_lt_next (d : Nat → Nat) {n j : Nat} (hj : j < n) : pos d n j < cL d (d j + 1) n := by
  rw [cL_succ]
  have := cE_lt d hj (rfl : d j = d j)
  unfold pos; omega
theorem pos_lt (d : Nat → Nat) {n j : Nat} (hj : j < n) : pos d n j < n :=
  Nat.lt_of_lt_of_le (pos_lt_next d hj) (cL_le _ _ _)
theorem pos_of (d : Nat → Nat) {n j k : Nat} (hj : j < n) (h : d j < d k ∨ (d j = d k ∧ j < k)) : pos d n j < pos d n k := by
  rcases h with h | ⟨h, hk⟩
  · have h1 := pos_lt_next d hj
    have h2 := cL_mono d n (show d j + 1 ≤ d k by omega)
    unfold pos at h1 ⊢; omega
  · have := cE_lt d hk h
    unfold pos
    rw [h]; omega
theorem pos_iff (d : Nat → Nat) {n j k : Nat} (hj : j < n) (hk : k < n) : pos d n j < pos d n k ↔ d j < d k ∨ (d j = d k ∧ j < k) := by
  constructor
  · intro h
    by_cases h1 : d j < d k ∨ (d j = d k ∧ j < k)
    · exact h1
    · exfalso
      by_cases h2 : j = k
      · subst h2; omega
      · have := pos_of d hk (k := j) (by omega)
        omega
  · exact pos_of d hj
theorem pos_inj (d : Nat → Nat) {n j k : Nat} (hj : j < n) (hk : k < n) (h : pos d n j = pos d n k) : j = k := by
  by_cases he : j = k
  · exact he
  · by_cases h1 : d j < d k ∨ (d j = d k ∧ j < k)
    · have := pos_of d hj h1; omega
    · have := pos_of d hk (k := j) (by omega); omega

/-! ### A one-to-one map keeps counts -/
def upd {α : Type} (d : Nat → α) (m : Nat) (e : α) : Nat → α := fun j => if j = m then e else d j
theorem cE_same {d e : Nat → Nat} {v n : Nat} (h : ∀ j, j < n → d j = e j) : cE d v n = cE e v n := by
  induction n with
  | zero => rfl
  | succ n ih => simp only [cE]; rw [ih (fun j hj => h j (by omega)), h n (by omega)]
theorem cE_upd (d : Nat → Nat) {m n : Nat} (e v : Nat) (hm : m < n) : cE (upd d m e) v n + (if d m = v then 1 else 0) = cE d v n + (if e = v then 1 else 0) := by
  induction n with
  | zero => omega
  | succ n ih =>
    simp only [cE]
    by_cases h : m = n
    · subst h
      have e1 : cE (upd d m e) v m = cE d v m := cE_same fun j hj => by simp [upd, show j ≠ m by omega]
      rw [e1]
      simp only [upd, if_true]
      omega
    · have := ih (by omega)
      have e2 : upd d m e n = d n := by simp [upd, show n ≠ m by omega]
      rw [e2]
      omega
theorem count_perm {n : Nat} : ∀ {P dx dy : Nat → Nat} (v : Nat), (∀ j, j < n → P j < n) → (∀ j k, j < n → k < n → P j = P k → j = k) → (∀ j, j < n → dy (P j) = dx j) → cE dy v n = cE dx v n := by
  induction n with
  | zero => intros; rfl
  | succ n ih =>
    intro P dx dy v hin hinj hd
    have hm := hin n (by omega)
    have hdn := hd n (by omega)
    by_cases hmn : P n = n
    · have h1 := ih (P := P) (dx := dx) (dy := dy) v (fun j hj => by
        have := hin j (by omega)
        by_cases he : P j = n
        · have := hinj j n (by omega) (by omega) (by omega)
          omega
        · omega) (fun j k hj hk => hinj j k (by omega) (by omega)) (fun j hj => hd j (by omega))
      rw [hmn] at hdn
      simp only [cE, h1, hdn]
    · have h1 := ih (P := fun j => if P j = n then P n else P j) (dx := dx) (dy := upd dy (P n) (dy n)) v
        (fun j hj => by
          have := hin j (by omega)
          show (if P j = n then P n else P j) < n
          split <;> omega)
        (fun j k hj hk h => by
          have h : (if P j = n then P n else P j) = (if P k = n then P n else P k) := h
          have q1 := hinj j n (by omega) (by omega)
          have q2 := hinj k n (by omega) (by omega)
          split at h
          · split at h
            · exact hinj j k (by omega) (by omega) (by omega)
            · have := q2 h.symm; omega
          · split at h
            · have := q1 h; omega
            · exact hinj j k (by omega) (by omega) h)
        (fun j hj => by
          show upd dy (P n) (dy n) (if P j = n then P n else P j) = dx j
          have q1 := hinj j n (by omega) (by omega)
          by_cases he : P j = n
          · rw [if_pos he]
            simp only [upd, if_true]
            rw [← he]; exact hd j (by omega)
          · rw [if_neg he]
            have hne : P j ≠ P n := fun h => by have := q1 h; omega
            simp only [upd, if_neg hne]
            exact hd j (by omega))
      have h2 := cE_upd dy (n := n) (dy n) v (show P n < n by omega)
      simp only [cE]
      rw [← h1, ← hdn]
      omega
theorem cE_one {d : Nat → Nat} {v n : Nat} (h : 0 < cE d v n) : ∃ j, j < n ∧ d j = v := by
  induction n with
  | zero => simp [cE] at h
  | succ n ih =>
    by_cases he : d n = v
    · exact ⟨n, by omega, he⟩
    · rw [cE_miss d he] at h
      obtain ⟨j, hj, e⟩ := ih h
      exact ⟨j, by omega, e⟩
theorem onto {n : Nat} {P : Nat → Nat} (hin : ∀ j, j < n → P j < n) (hinj : ∀ j k, j < n → k < n → P j = P k → j = k) {p : Nat} (hp : p < n) : ∃ j, j < n ∧ P j = p := by
  have h := count_perm (P := P) (dx := fun j => if P j = p then 1 else 0) (dy := fun i => if i = p then 1 else 0) 1 hin hinj (fun j hj => rfl)
  have h1 := cE_lt (fun i => if i = p then 1 else 0) (v := 1) hp (by simp)
  obtain ⟨j, hj, e⟩ := cE_one (d := fun j => if P j = p then 1 else 0) (v := 1) (n := n) (by omega)
  refine ⟨j, hj, ?_⟩
  by_cases he : P j = p
  · exact he
  · simp [he] at e
theorem cL_perm {n : Nat} {P dx dy : Nat → Nat} (v : Nat) (hin : ∀ j, j < n → P j < n) (hinj : ∀ j k, j < n → k < n → P j = P k → j = k) (hd : ∀ j, j < n → dy (P j) = dx j) : cL dy v n = cL dx v n := by
  induction v with
  | zero => rw [cL_zero, cL_zero]
  | succ v ih => rw [cL_succ, cL_succ, ih, count_perm v hin hinj hd]

/-! ### The order after p places -/
def lx (D : Nat → Nat → Nat) : Nat → Nat → Nat → Prop
  | 0, j, k => j < k
  | p + 1, j, k => D p j < D p k ∨ (D p j = D p k ∧ lx D p j k)

abbrev Key := Nat × Int
/-- The keys x stand in y, each at 'P', in the order of the first p places. -/
structure St (x y : Nat → Key) (n : Nat) (P : Nat → Nat) (D : Nat → Nat → Nat) (p : Nat) : Prop where
  inn : ∀ j, j < n → P j < n
  inj : ∀ j k, j < n → k < n → P j = P k → j = k
  eq : ∀ j, j < n → y (P j) = x j
  ord : ∀ j k, j < n → k < n → (P j < P k ↔ lx D p j k)
theorem St.start (x : Nat → Key) (n : Nat) (D : Nat → Nat → Nat) : St x x n (fun j => j) D 0 :=
  ⟨fun j h => h, fun j k _ _ h => h, fun j _ => rfl, fun j k _ _ => Iff.rfl⟩
theorem St.step {x y z : Nat → Key} {n : Nat} {P : Nat → Nat} {D : Nat → Nat → Nat} {p : Nat} (S : St x y n P D p) {dy : Nat → Nat} (hd : ∀ j, j < n → dy (P j) = D p j) (hz : ∀ i, i < n → z (pos dy n i) = y i) : St x z n (fun j => pos dy n (P j)) D (p + 1) := by
  refine ⟨fun j hj => pos_lt dy (S.inn j hj), fun j k hj hk h => S.inj j k hj hk (pos_inj dy (S.inn j hj) (S.inn k hk) h), fun j hj => ?_, fun j k hj hk => ?_⟩
  · show z (pos dy n (P j)) = x j
    rw [hz _ (S.inn j hj), S.eq j hj]
  · show pos dy n (P j) < pos dy n (P k) ↔ _
    rw [pos_iff dy (S.inn j hj) (S.inn k hk), hd j hj, hd k hk, S.ord j k hj hk]
    exact Iff.rfl
def Srt (x : Nat → Key) (n : Nat) : Prop := ∀ a b, a < b → b < n → (x a).1 ≤ (x b).1
theorem mono_id {n : Nat} {P : Nat → Nat} (hin : ∀ j, j < n → P j < n) (hm : ∀ j k, j < k → k < n → P j < P k) : ∀ j, j < n → P j = j := by
  have lo : ∀ j, j < n → j ≤ P j := by
    intro j
    induction j with
    | zero => intro _; omega
    | succ j ih => intro hj; have := ih (by omega); have := hm j (j + 1) (by omega) hj; omega
  have hi : ∀ t, ∀ j, j < n → j + t + 1 = n → P j ≤ j := by
    intro t
    induction t with
    | zero => intro j hj he; have := hin j hj; omega
    | succ t ih => intro j hj he; have h1 := ih (j + 1) (by omega) (by omega); have := hm j (j + 1) (by omega) (by omega); omega
  intro j hj
  have := lo j hj
  have := hi (n - 1 - j) j hj (by omega)
  omega
theorem St.done {x y : Nat → Key} {n : Nat} {P : Nat → Nat} {D : Nat → Nat → Nat} {p : Nat} (S : St x y n P D p) (hl : ∀ j k, j < n → k < n → (lx D p j k ↔ (x j).1 < (x k).1 ∨ ((x j).1 = (x k).1 ∧ j < k))) : Srt y n ∧ (Srt x n → ∀ j, j < n → y j = x j) := by
  constructor
  · intro a b hab hb
    obtain ⟨j, hj, rfl⟩ := onto S.inn S.inj (show a < n by omega)
    obtain ⟨k, hk, rfl⟩ := onto S.inn S.inj hb
    rw [S.eq j hj, S.eq k hk]
    rw [S.ord j k hj hk, hl j k hj hk] at hab
    omega
  · intro hs
    have hid := mono_id S.inn (fun j k hjk hk => by
      rw [S.ord j k (by omega) hk, hl j k (by omega) hk]
      have := hs j k hjk hk
      omega)
    intro j hj
    have := S.eq j hj
    rwa [hid j hj] at this

/-! ### Insertion -/
def swp (x : Nat → Key) (j : Nat) : Nat → Key := upd (upd x (j - 1) (x j)) j (x (j - 1))
theorem swp_lo (x : Nat → Key) {j : Nat} (h : 0 < j) : swp x j (j - 1) = x j := by simp [swp, upd, show j - 1 ≠ j by omega]
theorem swp_hi (x : Nat → Key) (j : Nat) : swp x j j = x (j - 1) := by simp [swp, upd]
theorem swp_ne (x : Nat → Key) {j a : Nat} (h1 : a ≠ j) (h2 : a ≠ j - 1) : swp x j a = x a := by simp [swp, upd, h1, h2]
def Ins (x : Nat → Key) (i j : Nat) : Prop := j ≤ i ∧ ∀ a b, a < b → b ≤ i → b ≠ j → (x a).1 ≤ (x b).1
theorem Ins.start {x : Nat → Key} {i : Nat} (h : Srt x i) : Ins x i i := ⟨Nat.le_refl _, fun a b hab hb hn => h a b hab (by omega)⟩
theorem Ins.done {x : Nat → Key} {i j : Nat} (h : Ins x i j) (hj : j = 0 ∨ (x (j - 1)).1 ≤ (x j).1) : Srt x (i + 1) := by
  intro a b hab hb
  by_cases hb' : b = j
  · subst hb'
    rcases hj with hj | hj
    · omega
    · by_cases ha : a = b - 1
      · rw [ha]; exact hj
      · have := h.2 a (b - 1) (by omega) (by omega) (by omega); omega
  · exact h.2 a b hab (by omega) hb'
theorem Ins.swap {x : Nat → Key} {i j : Nat} (h : Ins x i j) (hj : 0 < j) (hgt : (x j).1 < (x (j - 1)).1) : Ins (swp x j) i (j - 1) := by
  obtain ⟨hi, h⟩ := h
  refine ⟨by omega, fun a b hab hb hn => ?_⟩
  by_cases b1 : b = j
  · subst b1
    rw [swp_hi]
    by_cases a1 : a = b - 1
    · rw [a1, swp_lo x hj]; omega
    · rw [swp_ne x (by omega) a1]; exact h a (b - 1) (by omega) (by omega) (by omega)
  · rw [swp_ne x b1 hn]
    by_cases a1 : a = j
    · rw [a1, swp_hi]; exact h (j - 1) b (by omega) hb b1
    · by_cases a2 : a = j - 1
      · rw [a2, swp_lo x hj]; exact h j b (by omega) hb b1
      · rw [swp_ne x a1 a2]; exact h a b hab hb b1
end Go.Proofs.Qxb6603421a
