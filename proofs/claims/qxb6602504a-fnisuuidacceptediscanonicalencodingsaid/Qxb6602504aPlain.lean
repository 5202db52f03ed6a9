/-
  PLAIN: a UUID as 36 signs, its 32 nibbles, its 16 bytes, and the 36 signs again. No Go in sight.
-/
namespace Go.Proofs.Qxb6602504a.Ux
set_option linter.unusedVariables false

/-- The sign of a nibble. -/
def hd (m : Nat) : Int := if m < 10 then 48 + (m : Int) else 87 + (m : Int)
theorem hd_inj {a b : Nat} (ha : a < 16) (hb : b < 16) (h : hd a = hd b) : a = b := by unfold hd at h; split at h <;> split at h <;> omega
theorem hd_bd {m : Nat} (h : m < 16) : 48 ≤ hd m ∧ hd m ≤ 102 := by unfold hd; split <;> omega
/-- The nibble of a sign. -/
def hv (c : Int) : Nat := if c ≤ 57 then (c - 48).toNat else (c - 87).toNat
theorem hv_hd {c : Int} (h : (48 ≤ c ∧ c ≤ 57) ∨ (97 ≤ c ∧ c ≤ 102)) : hv c < 16 ∧ hd (hv c) = c := by
  unfold hv hd
  split
  · constructor
    · omega
    · split <;> omega
  · constructor
    · omega
    · split <;> omega

def isDash (k : Nat) : Prop := k = 8 ∨ k = 13 ∨ k = 18 ∨ k = 23
/-- Sign k of the text. -/
def chr (s : ByteArray) (k : Nat) : Int := ((s.data.toList.getD k 0).toNat : Int)
theorem chr_at (s : ByteArray) (k : Nat) (h : k < s.size) : (s[k].toNat : Int) = chr s k := by
  unfold chr
  have h2 : k < s.data.toList.length := by simpa using h
  simp only [List.getD_eq_getElem?_getD, List.getElem?_eq_getElem h2, Option.getD_some]
  rfl
theorem chr_bd (s : ByteArray) (k : Nat) : 0 ≤ chr s k ∧ chr s k ≤ 255 := by
  unfold chr
  have := (s.data.toList.getD k 0).toNat_lt
  omega

/-- Sign k is as a UUID has it. -/
def OkAt (s : ByteArray) (k : Nat) : Prop := (isDash k → chr s k = 45) ∧ (¬ isDash k → (48 ≤ chr s k ∧ chr s k ≤ 57) ∨ (97 ≤ chr s k ∧ chr s k ≤ 102))
def Uuid (s : ByteArray) : Prop := s.size = 36 ∧ ∀ k, k < 36 → OkAt s k

/-- How many of the first k places are no dash. -/
def cnt (k : Nat) : Nat := k - ((if 8 < k then 1 else 0) + (if 13 < k then 1 else 0) + (if 18 < k then 1 else 0) + (if 23 < k then 1 else 0))
theorem cnt_zero : cnt 0 = 0 := rfl
theorem cnt_dash {k : Nat} (h : isDash k) : cnt (k + 1) = cnt k := by
  rcases h with rfl | rfl | rfl | rfl <;> rfl
theorem cnt_next {k : Nat} (h : ¬ isDash k) : cnt (k + 1) = cnt k + 1 := by
  unfold isDash at h
  unfold cnt
  repeat' split
  all_goals omega
theorem cnt_lt {k : Nat} (h : ¬ isDash k) (hk : k < 36) : cnt k < 32 := by
  unfold isDash at h
  unfold cnt
  repeat' split
  all_goals omega
theorem cnt_le {k : Nat} (hk : k ≤ 36) : cnt k ≤ 32 := by
  unfold cnt
  repeat' split
  all_goals omega
/-- Where nibble t stands. -/
def pos (t : Nat) : Nat := t + ((if 8 ≤ t then 1 else 0) + (if 12 ≤ t then 1 else 0) + (if 16 ≤ t then 1 else 0) + (if 20 ≤ t then 1 else 0))
theorem pos_cnt {k : Nat} (h : ¬ isDash k) (hk : k < 36) : pos (cnt k) = k := by
  have key : ∀ k, k < 36 → k ≠ 8 → k ≠ 13 → k ≠ 18 → k ≠ 23 → pos (cnt k) = k := by decide
  unfold isDash at h
  exact key k hk (by omega) (by omega) (by omega) (by omega)
theorem pos_ok {t : Nat} (h : t < 32) : pos t < 36 ∧ ¬ isDash (pos t) := by
  unfold isDash pos
  repeat' split
  all_goals omega

/-- The nibbles of a UUID's text. -/
def nib (s : ByteArray) (t : Nat) : Nat := hv (chr s (pos t))
theorem nib_lt {s : ByteArray} (U : Uuid s) {t : Nat} (h : t < 32) : nib s t < 16 ∧ hd (nib s t) = chr s (pos t) := by
  have hp := pos_ok h
  exact hv_hd ((U.2 _ hp.1).2 hp.2)
theorem nib_at {s : ByteArray} {k : Nat} (h : ¬ isDash k) (hk : k < 36) : nib s (cnt k) = hv (chr s k) := by unfold nib; rw [pos_cnt h hk]

/-- Byte j when n nibbles have been read. -/
def bv (N : Nat → Nat) (n j : Nat) : Int := if 2 * j + 1 < n then 16 * (N (2 * j) : Int) + N (2 * j + 1) else if 2 * j < n then 16 * (N (2 * j) : Int) else 0
theorem bv_zero (N : Nat → Nat) (j : Nat) : bv N 0 j = 0 := by simp [bv]
theorem bv_even {N : Nat → Nat} {n j : Nat} (he : n % 2 = 0) : bv N (n + 1) j = if j = n / 2 then 16 * (N n : Int) else bv N n j := by
  unfold bv
  by_cases hj : j = n / 2
  · have : 2 * j = n := by omega
    rw [if_neg (by omega), if_pos (by omega), if_pos hj, this]
  · rw [if_neg hj]
    by_cases h1 : 2 * j + 1 < n
    · rw [if_pos (by omega), if_pos h1]
    · rw [if_neg (by omega), if_neg h1]
      by_cases h2 : 2 * j < n
      · rw [if_pos (by omega), if_pos h2]
      · rw [if_neg (by omega), if_neg h2]
theorem bv_odd {N : Nat → Nat} {n j : Nat} (he : n % 2 = 1) : bv N (n + 1) j = if j = n / 2 then bv N n j + N n else bv N n j := by
  unfold bv
  by_cases hj : j = n / 2
  · have h2 : 2 * j + 1 = n := by omega
    rw [if_pos (by omega), if_pos hj, if_neg (by omega), if_pos (by omega), h2]
  · rw [if_neg hj]
    by_cases h1 : 2 * j + 1 < n
    · rw [if_pos (by omega), if_pos h1]
    · rw [if_neg (by omega), if_neg h1]
      by_cases h2 : 2 * j < n
      · rw [if_pos (by omega), if_pos h2]
      · rw [if_neg (by omega), if_neg h2]
theorem bv_bd {N : Nat → Nat} (hN : ∀ t, t < 32 → N t < 16) {n j : Nat} (hj : j < 16) : 0 ≤ bv N n j ∧ bv N n j ≤ 255 := by
  have h1 := hN (2 * j) (by omega)
  have h2 := hN (2 * j + 1) (by omega)
  unfold bv
  repeat' split
  all_goals omega
theorem bv_half {N : Nat → Nat} {n : Nat} (he : n % 2 = 1) : bv N n (n / 2) = 16 * (N (n - 1) : Int) := by
  unfold bv
  have : 2 * (n / 2) = n - 1 := by omega
  rw [if_neg (by omega), if_pos (by omega), this]

/-- The signs of the first i bytes. -/
def FL (x : Nat → Int) : Nat → List Int
  | 0 => []
  | i + 1 => FL x i ++ (if i = 4 ∨ i = 6 ∨ i = 8 ∨ i = 10 then [45] else []) ++ [hd (x i / 16).toNat, hd (x i % 16).toNat]
def dc (i : Nat) : Nat := (if 4 < i then 1 else 0) + (if 6 < i then 1 else 0) + (if 8 < i then 1 else 0) + (if 10 < i then 1 else 0)
theorem FL_len (x : Nat → Int) (i : Nat) : (FL x i).length = 2 * i + dc i := by
  induction i with
  | zero => rfl
  | succ i ih =>
    have hd : dc (i + 1) = dc i + if i = 4 ∨ i = 6 ∨ i = 8 ∨ i = 10 then 1 else 0 := by
      unfold dc
      repeat' split
      all_goals omega
    simp only [FL, List.length_append, ih, hd]
    split <;> simp <;> omega
theorem dc_le (i : Nat) : dc i ≤ 4 := by unfold dc; repeat' split
                                         all_goals omega
theorem FL_room {x : Nat → Int} {i : Nat} (h : i < 16) : (FL x i).length + (if i = 4 ∨ i = 6 ∨ i = 8 ∨ i = 10 then 1 else 0) + 2 ≤ 36 := by
  have h1 := FL_len x (i + 1)
  have h2 := dc_le (i + 1)
  simp only [FL, List.length_append] at h1
  split at h1 <;> split <;> simp_all <;> omega

/-- Bytes out of numbers. -/
def mkS (ns : List Int) : ByteArray := ns.foldl (fun r n => r.push (UInt8.ofNat n.toNat)) ByteArray.empty
theorem mkS_aux (ns : List Int) : ∀ s : ByteArray, (ns.foldl (fun r n => r.push (UInt8.ofNat n.toNat)) s).data.toList = s.data.toList ++ ns.map fun n => UInt8.ofNat n.toNat := by
  induction ns with
  | nil => intro s; simp
  | cons n ns ih => intro s; rw [List.foldl_cons, ih]; simp [ByteArray.push]
theorem mkS_data (ns : List Int) : (mkS ns).data.toList = ns.map fun n => UInt8.ofNat n.toNat := by
  unfold mkS; rw [mkS_aux]; rfl
theorem mkS_eq {ns : List Int} {s : ByteArray} (hl : ns.length = s.size) (h : ∀ k, k < s.size → ns[k]? = some (chr s k)) : mkS ns = s := by
  have key : (mkS ns).data.toList = s.data.toList := by
    rw [mkS_data]
    apply List.ext_getElem?
    intro k
    rw [List.getElem?_map]
    by_cases hk : k < s.size
    · rw [h k hk]
      have h2 : k < s.data.toList.length := by simpa using hk
      simp only [Option.map_some, chr, List.getD_eq_getElem?_getD, List.getElem?_eq_getElem h2, Option.getD_some]
      simp
    · rw [List.getElem?_eq_none (by omega), List.getElem?_eq_none (by simpa using hk)]
      rfl
  have : (mkS ns).data = s.data := Array.toList_inj.1 key
  cases hs : mkS ns
  cases s
  simp_all

/-! ### The text written again -/
theorem places_dash : ∀ i, i < 16 → (i = 4 ∨ i = 6 ∨ i = 8 ∨ i = 10) → (2 * i + dc i = 8 ∨ 2 * i + dc i = 13 ∨ 2 * i + dc i = 18 ∨ 2 * i + dc i = 23) ∧ pos (2 * i) = 2 * i + dc i + 1 ∧ pos (2 * i + 1) = 2 * i + dc i + 1 + 1 ∧ dc (i + 1) = dc i + 1 := by decide
theorem places_none : ∀ i, i < 16 → ¬ (i = 4 ∨ i = 6 ∨ i = 8 ∨ i = 10) → pos (2 * i) = 2 * i + dc i ∧ pos (2 * i + 1) = 2 * i + dc i + 1 ∧ dc (i + 1) = dc i := by decide

theorem bv_full (N : Nat → Nat) {j : Nat} (hj : j < 16) : bv N 32 j = 16 * (N (2 * j) : Int) + N (2 * j + 1) := by unfold bv; rw [if_pos (by omega)]

theorem FL_text {s : ByteArray} (U : Uuid s) : ∀ i, i ≤ 16 → FL (bv (nib s) 32) i = (List.range (2 * i + dc i)).map (chr s)
  | 0, _ => rfl
  | i + 1, hi => by
    have ih := FL_text U i (by omega)
    obtain ⟨a1, a2⟩ := nib_lt U (t := 2 * i) (by omega)
    obtain ⟨b1, b2⟩ := nib_lt U (t := 2 * i + 1) (by omega)
    have e1 : (bv (nib s) 32 i / 16).toNat = nib s (2 * i) := by rw [bv_full _ (by omega)]; omega
    have e2 : (bv (nib s) 32 i % 16).toNat = nib s (2 * i + 1) := by rw [bv_full _ (by omega)]; omega
    rw [FL, ih, e1, e2, a2, b2]
    by_cases hd : i = 4 ∨ i = 6 ∨ i = 8 ∨ i = 10
    · obtain ⟨h1, h2, h3, h4⟩ := places_dash i (by omega) hd
      have hc : chr s (2 * i + dc i) = 45 := (U.2 _ (by omega)).1 h1
      rw [if_pos hd, h2, h3, h4, show 2 * (i + 1) + (dc i + 1) = 2 * i + dc i + 1 + 1 + 1 by omega, List.range_succ, List.range_succ, List.range_succ]
      simp [hc]
    · obtain ⟨h2, h3, h4⟩ := places_none i (by omega) hd
      rw [if_neg hd, h2, h3, h4, show 2 * (i + 1) + dc i = 2 * i + dc i + 1 + 1 by omega, List.range_succ, List.range_succ]
      simp

theorem text_again {s : ByteArray} (U : Uuid s) : mkS (FL (bv (nib s) 32) 16) = s := by
  have h := FL_text U 16 (Nat.le_refl _)
  have e : 2 * 16 + dc 16 = 36 := by decide
  rw [e] at h
  rw [h]
  refine mkS_eq (by simp [U.1]) fun k hk => ?_
  have : k < 36 := by have := U.1; omega
  simp [this]
end Go.Proofs.Qxb6602504a.Ux
