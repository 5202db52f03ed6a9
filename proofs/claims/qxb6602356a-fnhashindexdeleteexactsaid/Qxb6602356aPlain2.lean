/-
  PLAIN, MORE: the items of a table as a list; what deleting does to it; sorting pairs by merging; counting. No Go in sight.
-/
import Derived.Test.Qxb6602356aPlain
namespace Go.Proofs.Qxb6602356a.Hx
set_option linter.unusedVariables false

/-- The items of a table, slot by slot. -/
def itemsUpto (h p : Nat → Int) (k : Nat) : List (Int × Int) := ((List.range k).map fun x => (h x, p x)).filter fun q => q.1 != 0
theorem itemsUpto_zero (h p : Nat → Int) : itemsUpto h p 0 = [] := rfl
theorem itemsUpto_hit (h p : Nat → Int) (k : Nat) (hk : h k ≠ 0) : itemsUpto h p (k + 1) = itemsUpto h p k ++ [(h k, p k)] := by
  simp [itemsUpto, List.range_succ, hk]
theorem itemsUpto_miss (h p : Nat → Int) (k : Nat) (hk : h k = 0) : itemsUpto h p (k + 1) = itemsUpto h p k := by
  simp [itemsUpto, List.range_succ, hk]
theorem itemsUpto_length (h p : Nat → Int) (k : Nat) : (itemsUpto h p k).length = occN h k := by
  induction k with
  | zero => rfl
  | succ k ih =>
    by_cases hk : h k = 0
    · rw [itemsUpto_miss _ _ _ hk, ih]; simp [occN, hk]
    · rw [itemsUpto_hit _ _ _ hk, List.length_append, ih]; simp [occN, hk]
theorem itemsUpto_le (h p : Nat → Int) (k : Nat) : (itemsUpto h p k).length ≤ k := by rw [itemsUpto_length]; exact occN_le _ _

theorem deleted_items {n : Nat} {h0 p0 h p : Nat → Int} {hh pp : Int} (hz : hh ≠ 0) (D : Deleted n h0 p0 hh pp h p) : (itemsUpto h p n).Perm ((itemsUpto h0 p0 n).erase (hh, pp)) := by
  obtain ⟨i0, hi0, e1, e2, hp⟩ := D.perm
  have hmem : i0 ∈ List.range n := List.mem_range.2 hi0
  have hr := List.perm_cons_erase hmem
  have hnot : ∀ x, x ∈ (List.range n).erase i0 → x ≠ i0 := fun x hx => ((List.Nodup.mem_erase_iff List.nodup_range).1 hx).1
  have h1 : (hole n h0 p0 i0).Perm ((0, 0) :: ((List.range n).erase i0).map fun x => (h0 x, p0 x)) := by
    unfold hole
    refine (hr.map _).trans ?_
    simp only [List.map_cons, if_true]
    refine List.Perm.cons _ ?_
    rw [List.map_congr_left (g := fun x => (h0 x, p0 x)) fun x hx => by simp [hnot x hx]]
  have h2 : ((List.range n).map fun x => (h0 x, p0 x)).Perm ((hh, pp) :: ((List.range n).erase i0).map fun x => (h0 x, p0 x)) := by
    refine (hr.map _).trans ?_
    simp only [List.map_cons, e1, e2]
    exact List.Perm.refl _
  have h3 : (itemsUpto h p n).Perm ((((List.range n).erase i0).map fun x => (h0 x, p0 x)).filter fun q => q.1 != 0) := by
    have := (hp.trans h1).filter (fun q => q.1 != 0)
    simpa [itemsUpto] using this
  have h4 : (itemsUpto h0 p0 n).Perm ((hh, pp) :: ((((List.range n).erase i0).map fun x => (h0 x, p0 x)).filter fun q => q.1 != 0)) := by
    have := h2.filter (fun q => q.1 != 0)
    simpa [itemsUpto, hz] using this
  refine h3.trans (List.Perm.trans ?_ (h4.erase (hh, pp)).symm)
  simp

theorem deleted_mem {n : Nat} {h0 p0 h p : Nat → Int} {hh pp : Int} (hz : hh ≠ 0) (D : Deleted n h0 p0 hh pp h p) : (hh, pp) ∈ itemsUpto h0 p0 n := by
  obtain ⟨i0, hi0, e1, e2, _⟩ := D.perm
  refine List.mem_filter.2 ⟨List.mem_map.2 ⟨i0, List.mem_range.2 hi0, by rw [e1, e2]⟩, by simpa using hz⟩

/-- The table behind a deletion is valid, with one item fewer. -/
theorem deleted_valid {n : Nat} {h0 p0 h p : Nat → Int} {hh pp count : Int} (hz : hh ≠ 0) (V : Valid n h0 p0 count) (D : Deleted n h0 p0 hh pp h p) : Valid n h p (count - 1) := by
  have hl := (deleted_items hz D).length_eq
  rw [List.length_erase_of_mem (deleted_mem hz D), itemsUpto_length, itemsUpto_length] at hl
  have hpos : 0 < occN h0 n := by
    rw [← itemsUpto_length h0 p0]
    exact List.length_pos_of_mem (deleted_mem hz D)
  have hc := V.cnt
  have hld := V.load
  exact ⟨V.big, D.slots, by omega, by omega, D.emp, D.inv⟩

/-! ### Counting the slots that have been freed -/
def freedN (n g L : Nat) (h : Nat → Int) : Nat → Nat
  | 0 => 0
  | k + 1 => freedN n g L h k + if dst n g k < L ∧ h k = 0 then 1 else 0
theorem freedN_le (n g L : Nat) (h : Nat → Int) (k : Nat) : freedN n g L h k ≤ k := by
  induction k with
  | zero => simp [freedN]
  | succ k ih => unfold freedN; split <;> omega
theorem freedN_one {n g L i : Nat} {h : Nat → Int} (hi : i < n) (hd : dst n g i < L) (H : ∀ x, x < n → dst n g x < L → (h x = 0 ↔ x = i)) : ∀ k, k ≤ n → freedN n g L h k = if i < k then 1 else 0
  | 0, _ => by simp [freedN]
  | k + 1, hk => by
    have ih := freedN_one hi hd H k (by omega)
    unfold freedN
    rw [ih]
    by_cases hki : k = i
    · subst hki
      have := (H k hi hd).2 rfl
      simp [hd, this]
    · by_cases hc : dst n g k < L ∧ h k = 0
      · exact absurd ((H k (by omega) hc.1).1 hc.2) hki
      · rw [if_neg hc]
        by_cases hik : i < k
        · rw [if_pos hik, if_pos (by omega)]
        · rw [if_neg hik, if_neg (by omega)]

/-! ### Sorting pairs -/
/-- The order of pairs: by the first, then by the second. -/
def le2 (a b : Int × Int) : Bool := decide (a.1 < b.1) || (decide (a.1 = b.1) && decide (a.2 ≤ b.2))
theorem le2_iff (a b : Int × Int) : le2 a b = true ↔ a.1 < b.1 ∨ (a.1 = b.1 ∧ a.2 ≤ b.2) := by simp [le2]
theorem le2_trans (a b c : Int × Int) : le2 a b = true → le2 b c = true → le2 a c = true := by simp only [le2_iff]; omega
theorem le2_total (a b : Int × Int) : (le2 a b || le2 b a) = true := by
  simp only [Bool.or_eq_true, le2_iff]; omega
theorem le2_antisymm (a b : Int × Int) : le2 a b = true → le2 b a = true → a = b := by
  obtain ⟨a1, a2⟩ := a
  obtain ⟨b1, b2⟩ := b
  simp only [le2_iff, Prod.mk.injEq]; omega

/-- 'out' is a sorted arrangement of 'a'. -/
def SortOf (a out : List (Int × Int)) : Prop := out.Perm a ∧ out.Pairwise fun x y => le2 x y = true
theorem sortOf_short {a : List (Int × Int)} (h : a.length ≤ 1) : SortOf a a := by
  refine ⟨List.Perm.refl _, ?_⟩
  match a, h with
  | [], _ => exact List.Pairwise.nil
  | [x], _ => simp
theorem sortOf_merge {a l r : List (Int × Int)} {m : Nat} (hl : SortOf (a.take m) l) (hr : SortOf (a.drop m) r) : SortOf a (l.merge r le2) := by
  refine ⟨(List.merge_perm_append le2).trans ?_, List.pairwise_merge le2_trans le2_total _ _ hl.2 hr.2⟩
  have := hl.1.append hr.1
  rwa [List.take_append_drop] at this
theorem sortOf_same {a b x y : List (Int × Int)} (hab : a.Perm b) (hx : SortOf a x) (hy : SortOf b y) : x = y :=
  List.Perm.eq_of_pairwise (fun p q _ _ => le2_antisymm p q) hx.2 hy.2 (hx.1.trans (hab.trans hy.1.symm))

/-- The merging loop: what has been put out, and what is still to come. -/
theorem merge_step_right {l r : List (Int × Int)} {i j : Nat} (hi : i < l.length) (hj : j < r.length) (h : le2 l[i] r[j] = false) : (l.drop i).merge (r.drop j) le2 = r[j] :: (l.drop i).merge (r.drop (j + 1)) le2 := by
  rw [List.drop_eq_getElem_cons hi, List.drop_eq_getElem_cons hj, List.cons_merge_cons, if_neg (by rw [h]; exact Bool.false_ne_true)]
theorem merge_step_left {l r : List (Int × Int)} {i j : Nat} (hi : i < l.length) (hj : j < r.length) (h : le2 l[i] r[j] = true) : (l.drop i).merge (r.drop j) le2 = l[i] :: (l.drop (i + 1)).merge (r.drop j) le2 := by
  rw [List.drop_eq_getElem_cons hi, List.drop_eq_getElem_cons hj, List.cons_merge_cons, if_pos h]
theorem merge_done {l r : List (Int × Int)} {i j : Nat} (h : l.length ≤ i ∨ r.length ≤ j) : (l.drop i).merge (r.drop j) le2 = l.drop i ++ r.drop j := by
  rcases h with h | h
  · rw [List.drop_eq_nil_of_le h]; simp
  · rw [List.drop_eq_nil_of_le h]; simp

end Go.Proofs.Qxb6602356a.Hx
