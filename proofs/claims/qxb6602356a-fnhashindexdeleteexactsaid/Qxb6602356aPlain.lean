/-
  PLAIN: a table of n slots, round in a ring; open addressing; what deleting by moving back does. No Go in sight.
-/
namespace Go.Proofs.Qxb6602356a.Hx
set_option linter.unusedVariables false

/-- How far it is from a on to b, round the ring of n. -/
def dst (n a b : Nat) : Nat := if a ≤ b then b - a else b + n - a
/-- k steps on from a. -/
def adv (n a k : Nat) : Nat := if a + k < n then a + k else a + k - n

theorem dst_lt {n a b : Nat} (ha : a < n) (hb : b < n) : dst n a b < n := by unfold dst; split <;> omega
theorem adv_lt {n a k : Nat} (ha : a < n) (hk : k ≤ n) : adv n a k < n := by unfold adv; split <;> omega
theorem dst_adv {n a k : Nat} (ha : a < n) (hk : k < n) : dst n a (adv n a k) = k := by unfold dst adv; split <;> split <;> omega
theorem adv_dst {n a b : Nat} (ha : a < n) (hb : b < n) : adv n a (dst n a b) = b := by unfold dst adv; split <;> split <;> omega
theorem adv_full {n a : Nat} (ha : a < n) : adv n a n = a := by unfold adv; split <;> omega
theorem adv_zero {n a : Nat} (ha : a < n) : adv n a 0 = a := by unfold adv; split <;> omega
theorem dst_self (n a : Nat) : dst n a a = 0 := by unfold dst; simp
theorem dst_inj {n a b c : Nat} (ha : a < n) (hb : b < n) (hc : c < n) (h : dst n a b = dst n a c) : b = c := by unfold dst at h; split at h <;> split at h <;> omega

/-- The home slot of a hash. -/
def hom (n : Nat) (v : Int) : Nat := (v / 2 % n).toNat
theorem hom_lt {n : Nat} (hn : 0 < n) (v : Int) : hom n v < n := by
  unfold hom
  have h1 := Int.emod_nonneg (v / 2) (b := (n : Int)) (by omega)
  have h2 := Int.emod_lt_of_pos (v / 2) (b := (n : Int)) (by omega)
  omega

/-- No empty slot lies between an item's home and the item. -/
def CInv (n : Nat) (h : Nat → Int) : Prop := ∀ s, s < n → h s ≠ 0 → ∀ x, x < n → dst n (hom n (h s)) x ≤ dst n (hom n (h s)) s → h x ≠ 0
/-- The same, reckoned from the slot E on, for one slot. -/
def LAt (n E : Nat) (h : Nat → Int) (s : Nat) : Prop := dst n E (hom n (h s)) ≤ dst n E s ∧ ∀ x, x < n → dst n E (hom n (h s)) ≤ dst n E x → dst n E x ≤ dst n E s → h x ≠ 0
def LInv (n E : Nat) (h : Nat → Int) : Prop := ∀ s, s < n → h s ≠ 0 → LAt n E h s

/-- Three places on the ring, seen from E: what lies on the way from a to s. -/
theorem ring_between {n E a s x : Nat} (hE : E < n) (ha : a < n) (hs : s < n) (hx : x < n) (hle : dst n E a ≤ dst n E s) : dst n a x ≤ dst n a s ↔ (dst n E a ≤ dst n E x ∧ dst n E x ≤ dst n E s) := by
  unfold dst at *
  constructor
  · intro h; repeat' split at h
    all_goals (repeat' split at hle)
    all_goals (refine ⟨?_, ?_⟩ <;> (repeat' split) <;> omega)
  · rintro ⟨h1, h2⟩
    repeat' split at h1
    all_goals (repeat' split at h2)
    all_goals (repeat' split at hle)
    all_goals ((repeat' split) <;> omega)

theorem ring_past {n E a s : Nat} (hE : E < n) (ha : a < n) (hs : s < n) (h : dst n a s < dst n a E) : dst n E a ≤ dst n E s := by
  unfold dst at *
  repeat' split at h
  all_goals ((repeat' split) <;> omega)

theorem cinv_linv {n E : Nat} {h : Nat → Int} (hE : E < n) (he : h E = 0) : CInv n h ↔ LInv n E h := by
  constructor
  · intro H s hs ho
    have hh := hom_lt (n := n) (by omega) (h s)
    have hp : dst n E (hom n (h s)) ≤ dst n E s := by
      refine ring_past hE hh hs ?_
      rcases Nat.lt_or_ge (dst n (hom n (h s)) s) (dst n (hom n (h s)) E) with h1 | h1
      · exact h1
      · exact absurd he (H s hs ho E hE h1)
    exact ⟨hp, fun x hx h1 h2 => H s hs ho x hx ((ring_between hE hh hs hx hp).2 ⟨h1, h2⟩)⟩
  · intro H s hs ho x hx hd
    have hh := hom_lt (n := n) (by omega) (h s)
    obtain ⟨hp, hb⟩ := H s hs ho
    obtain ⟨h1, h2⟩ := (ring_between hE hh hs hx hp).1 hd
    exact hb x hx h1 h2

/-- How many of the first k slots hold an item. -/
def occN (h : Nat → Int) : Nat → Nat
  | 0 => 0
  | k + 1 => occN h k + if h k = 0 then 0 else 1
theorem occN_le (h : Nat → Int) (k : Nat) : occN h k ≤ k := by
  induction k with
  | zero => simp [occN]
  | succ k ih => unfold occN; split <;> omega
theorem occN_full {h : Nat → Int} {k : Nat} (H : ∀ j, j < k → h j ≠ 0) : occN h k = k := by
  induction k with
  | zero => rfl
  | succ k ih =>
    have := ih (fun j hj => H j (by omega))
    have h2 := H k (by omega)
    simp only [occN, h2, if_false]
    omega

/-- What tableValid says yes to (of a table that is not empty). -/
structure Valid (n : Nat) (h p : Nat → Int) (count : Int) : Prop where
  big : 16 ≤ n
  slots : ∀ i, i < n → (h i = 0 → p i = 0) ∧ (h i ≠ 0 → h i % 2 = 1)
  cnt : (occN h n : Int) = count
  load : 4 * count ≤ 3 * (n : Int)
  emp : ∃ E, E < n ∧ h E = 0
  inv : CInv n h

/-! ### The second loop of tableValid: runs of occupied slots, reckoned from an empty slot E -/

/-- Ahead of place k (from E on): r slots in a row are occupied, and no more. -/
def Run (n E : Nat) (h : Nat → Int) (k r : Nat) : Prop := r < k ∧ (∀ c, k - r ≤ c → c < k → h (adv n E c) ≠ 0) ∧ h (adv n E (k - 1 - r)) = 0

theorem run_start {n E : Nat} {h : Nat → Int} (hE : E < n) (he : h E = 0) : Run n E h 1 0 :=
  ⟨by omega, fun c h1 h2 => by omega, by rw [show 1 - 1 - 0 = 0 from rfl, adv_zero hE]; exact he⟩
theorem run_empty {n E k r : Nat} {h : Nat → Int} (hr : Run n E h k r) (hk : h (adv n E k) = 0) : Run n E h (k + 1) 0 :=
  ⟨by omega, fun c h1 h2 => by omega, by rw [show k + 1 - 1 - 0 = k by omega]; exact hk⟩
theorem run_more {n E k r : Nat} {h : Nat → Int} (hr : Run n E h k r) (hk : h (adv n E k) ≠ 0) : Run n E h (k + 1) (r + 1) := by
  obtain ⟨h1, h2, h3⟩ := hr
  refine ⟨by omega, fun c hc1 hc2 => ?_, by rw [show k + 1 - 1 - (r + 1) = k - 1 - r by omega]; exact h3⟩
  by_cases hck : c = k
  · subst hck; exact hk
  · exact h2 c (by omega) (by omega)

theorem run_test {n E k r : Nat} {h : Nat → Int} (hE : E < n) (hr : Run n E h k r) (hk : k < n) (ho : h (adv n E k) ≠ 0) :
    dst n (hom n (h (adv n E k))) (adv n E k) < r + 1 ↔ LAt n E h (adv n E k) := by
  obtain ⟨h1, h2, h3⟩ := hr
  have hs := adv_lt (n := n) (k := k) hE (by omega)
  have hh := hom_lt (n := n) (by omega) (h (adv n E k))
  have hck := dst_adv hE hk
  unfold LAt
  generalize hom n (h (adv n E k)) = g at *
  rw [hck]
  constructor
  · intro hd
    have hg : dst n E g + dst n g (adv n E k) = k := by
      clear h2 h3 ho
      unfold dst adv at *
      repeat' split at hd
      all_goals ((repeat' split) <;> omega)
    refine ⟨by omega, fun x hx hx1 hx2 => ?_⟩
    have hax := adv_dst hE hx
    by_cases hxk : dst n E x = k
    · rw [← hax, hxk]; exact ho
    · rw [← hax]; exact h2 _ (by omega) (by omega)
  · rintro ⟨hg, hb⟩
    rcases Nat.lt_or_ge (dst n g (adv n E k)) (r + 1) with hlt | hge
    · exact hlt
    · exfalso
      have hg2 : dst n E g + dst n g (adv n E k) = k := by
        clear h2 h3 ho hb hge
        unfold dst adv at *
        repeat' split at hg
        all_goals ((repeat' split) <;> omega)
      have hx := adv_lt (n := n) (k := k - 1 - r) hE (by omega)
      have hcx := dst_adv (n := n) (k := k - 1 - r) hE (by omega)
      exact hb _ hx (by omega) (by omega) h3

theorem linv_of_checked {n E : Nat} {h : Nat → Int} (hE : E < n) (he : h E = 0) (H : ∀ c, 1 ≤ c → c < n → h (adv n E c) ≠ 0 → LAt n E h (adv n E c)) : LInv n E h := by
  intro s hs ho
  have hc := adv_dst hE hs
  have h1 : dst n E s ≠ 0 := fun h0 => by
    rw [h0, adv_zero hE] at hc
    subst hc
    exact ho he
  have := H (dst n E s) (by omega) (dst_lt hE hs)
  rw [hc] at this
  exact this ho

/-! ### Delete -/

/-- x is turned to v at place i. -/
def upd {α : Type} (f : Nat → α) (i : Nat) (v : α) : Nat → α := fun x => if x = i then v else f x
theorem upd_same {α : Type} (f : Nat → α) (i : Nat) (v : α) : upd f i v i = v := by simp [upd]
theorem upd_ne {α : Type} (f : Nat → α) {i x : Nat} (v : α) (hx : x ≠ i) : upd f i v x = f x := by simp [upd, hx]

/-- The table seen as a list of pairs, slot i emptied. -/
def hole (n : Nat) (h p : Nat → Int) (i : Nat) : List (Int × Int) := (List.range n).map fun x => if x = i then (0, 0) else (h x, p x)

/-- What holds while items are moved back: i: the hole (its slot still holds what it held); cj: how far from E the scan has come. -/
structure DInv (n E : Nat) (h0 p0 : Nat → Int) (i0 : Nat) (h p : Nat → Int) (i cj : Nat) : Prop where
  hi : i < n
  lo : dst n E i0 ≤ dst n E i
  up : dst n E i < cj
  top : cj ≤ n
  perm : (hole n h p i).Perm (hole n h0 p0 i0)
  out : ∀ x, x < n → ¬ (dst n E i0 ≤ dst n E x ∧ dst n E x < cj) → h x = h0 x ∧ p x = p0 x
  occ : ∀ x, x < n → dst n E i0 ≤ dst n E x → dst n E x < cj → h x ≠ 0
  occ0 : ∀ x, x < n → dst n E i0 ≤ dst n E x → dst n E x < cj → h0 x ≠ 0
  inv : ∀ s, s < n → s ≠ i → h s ≠ 0 → dst n E (hom n (h s)) ≤ dst n E s ∧ (∀ x, x < n → dst n E (hom n (h s)) ≤ dst n E x → dst n E x ≤ dst n E s → x ≠ i → h x ≠ 0) ∧
    (dst n E s < cj → ¬ (dst n E (hom n (h s)) ≤ dst n E i ∧ dst n E i ≤ dst n E s))
  slots : ∀ x, x < n → (h x = 0 → p x = 0) ∧ (h x ≠ 0 → h x % 2 = 1)

theorem dinv_start {n E : Nat} {h p : Nat → Int} {i : Nat} (hE : E < n) (he : h E = 0) (hi : i < n) (ho : h i ≠ 0) (hinv : LInv n E h)
    (hs : ∀ x, x < n → (h x = 0 → p x = 0) ∧ (h x ≠ 0 → h x % 2 = 1)) : DInv n E h p i h p i (dst n E i + 1) where
  hi := hi
  lo := Nat.le_refl _
  up := by omega
  top := by have := dst_lt hE hi; omega
  perm := List.Perm.refl _
  out := fun _ _ _ => ⟨rfl, rfl⟩
  occ := fun x hx h1 h2 => by
    have : x = i := dst_inj hE hx hi (by omega)
    subst this; exact ho
  occ0 := fun x hx h1 h2 => by
    have : x = i := dst_inj hE hx hi (by omega)
    subst this; exact ho
  inv := fun s hs' hne hso => by
    obtain ⟨h1, h2⟩ := hinv s hs' hso
    refine ⟨h1, fun x hx hx1 hx2 _ => h2 x hx hx1 hx2, fun hlt => ?_⟩
    rintro ⟨ha, hb⟩
    have : s = i := dst_inj hE hs' hi (by omega)
    exact hne this
  slots := hs

/-- The two lists of pairs differ by an exchange. -/
theorem hole_move {n : Nat} (h p : Nat → Int) {i j : Nat} (hi : i < n) (hj : j < n) (hij : i ≠ j) :
    (hole n (upd h i (h j)) (upd p i (p j)) j).Perm (hole n h p i) := by
  have key : ∀ (l : List Nat), l.Nodup → i ∈ l → j ∈ l →
      (l.map fun x => if x = j then ((0 : Int), (0 : Int)) else (upd h i (h j) x, upd p i (p j) x)).Perm (l.map fun x => if x = i then (0, 0) else (h x, p x)) := by
    intro l hl hil hjl
    have h1 := List.perm_cons_erase hil
    have hjl' : j ∈ l.erase i := (List.mem_erase_of_ne (Ne.symm hij)).2 hjl
    have h2 := List.perm_cons_erase hjl'
    have h3 : l.Perm (i :: j :: (l.erase i).erase j) := h1.trans (h2.cons i)
    have hnd : ((l.erase i).erase j).Nodup := (hl.erase i).erase j
    have hni : ∀ x, x ∈ (l.erase i).erase j → x ≠ i ∧ x ≠ j := fun x hx => by
      have hx1 := (List.Nodup.mem_erase_iff (hl.erase i)).1 hx
      have hx2 := (List.Nodup.mem_erase_iff hl).1 hx1.2
      exact ⟨hx2.1, hx1.1⟩
    refine (h3.map _).trans (List.Perm.trans ?_ (h3.map _).symm)
    simp only [List.map_cons, if_true, if_neg hij, if_neg (Ne.symm hij), upd_same]
    have e : ((l.erase i).erase j).map (fun x => if x = j then ((0 : Int), (0 : Int)) else (upd h i (h j) x, upd p i (p j) x)) = ((l.erase i).erase j).map (fun x => if x = i then (0, 0) else (h x, p x)) := by
      refine List.map_congr_left fun x hx => ?_
      obtain ⟨ha, hb⟩ := hni x hx
      simp [ha, hb, upd_ne]
    rw [e]
    exact List.Perm.swap _ _ _
  exact key (List.range n) List.nodup_range (List.mem_range.2 hi) (List.mem_range.2 hj)

theorem dst_from {n E a b : Nat} (hE : E < n) (ha : a < n) (hb : b < n) (h : dst n E a ≤ dst n E b) : dst n a b = dst n E b - dst n E a := by
  unfold dst at *
  repeat' split at h
  all_goals ((repeat' split) <;> omega)

/-- The test of the Go text: may the item at j move to the hole? -/
theorem dinv_test {n E : Nat} {h0 p0 : Nat → Int} {i0 : Nat} {h p : Nat → Int} {i cj : Nat} (hE : E < n) (D : DInv n E h0 p0 i0 h p i cj) (hc : cj < n) (ho : h (adv n E cj) ≠ 0) :
    dst n i (adv n E cj) ≤ dst n (hom n (h (adv n E cj))) (adv n E cj) ↔ dst n E (hom n (h (adv n E cj))) ≤ dst n E i := by
  have hj := adv_lt (n := n) (k := cj) hE (by omega)
  have hcj := dst_adv hE hc
  have hne : adv n E cj ≠ i := fun e => by have := D.up; rw [← e, hcj] at this; omega
  obtain ⟨h1, _, _⟩ := D.inv _ hj hne ho
  have hh := hom_lt (n := n) (by omega) (h (adv n E cj))
  rw [dst_from hE D.hi hj (by have := D.up; omega), dst_from hE hh hj h1, hcj]
  have := D.up
  omega

theorem dinv_stay {n E : Nat} {h0 p0 : Nat → Int} {i0 : Nat} {h p : Nat → Int} {i cj : Nat} (hE : E < n) (D : DInv n E h0 p0 i0 h p i cj) (hc : cj < n) (ho : h (adv n E cj) ≠ 0)
    (ht : ¬ dst n E (hom n (h (adv n E cj))) ≤ dst n E i) : DInv n E h0 p0 i0 h p i (cj + 1) where
  hi := D.hi
  lo := D.lo
  up := by have := D.up; omega
  top := by omega
  perm := D.perm
  out := fun x hx hn => D.out x hx (fun hh => hn ⟨hh.1, by omega⟩)
  occ := fun x hx h1 h2 => by
    by_cases hxc : dst n E x = cj
    · have := adv_dst hE hx; rw [hxc] at this; rw [← this]; exact ho
    · exact D.occ x hx h1 (by omega)
  occ0 := fun x hx h1 h2 => by
    by_cases hxc : dst n E x = cj
    · have := adv_dst hE hx
      rw [hxc] at this
      have h3 := (D.out x hx (by omega)).1
      rw [← h3, ← this]; exact ho
    · exact D.occ0 x hx h1 (by omega)
  inv := fun s hs hne hso => by
    obtain ⟨h1, h2, h3⟩ := D.inv s hs hne hso
    refine ⟨h1, h2, fun hlt => ?_⟩
    by_cases hsc : dst n E s = cj
    · have := adv_dst hE hs
      rw [hsc] at this
      rintro ⟨ha, _⟩
      rw [← this] at ha
      exact ht ha
    · exact h3 (by omega)
  slots := D.slots

theorem dinv_move {n E : Nat} {h0 p0 : Nat → Int} {i0 : Nat} {h p : Nat → Int} {i cj : Nat} (hE : E < n) (D : DInv n E h0 p0 i0 h p i cj) (hc : cj < n) (ho : h (adv n E cj) ≠ 0)
    (ht : dst n E (hom n (h (adv n E cj))) ≤ dst n E i) : DInv n E h0 p0 i0 (upd h i (h (adv n E cj))) (upd p i (p (adv n E cj))) (adv n E cj) (cj + 1) := by
  have hj := adv_lt (n := n) (k := cj) hE (by omega)
  have hcj := dst_adv hE hc
  generalize hjj : adv n E cj = j at *
  have hup := D.up
  have hlo := D.lo
  have hne : j ≠ i := fun e => by rw [← e, hcj] at hup; omega
  have hxj : ∀ x, x < n → dst n E x = cj → x = j := fun x hx hxc => by have := adv_dst hE hx; rw [hxc, hjj] at this; exact this.symm
  exact
    { hi := hj
      lo := by omega
      up := by omega
      top := by omega
      perm := (hole_move h p D.hi hj (Ne.symm hne)).trans D.perm
      out := fun x hx hn => by
        have hxi : x ≠ i := fun e => hn (by rw [e]; omega)
        rw [upd_ne _ _ hxi, upd_ne _ _ hxi]
        exact D.out x hx (fun hh => hn ⟨hh.1, by omega⟩)
      occ := fun x hx h1 h2 => by
        by_cases hxi : x = i
        · rw [hxi, upd_same]; exact ho
        · rw [upd_ne _ _ hxi]
          by_cases hxc : dst n E x = cj
          · rw [hxj x hx hxc]; exact ho
          · exact D.occ x hx h1 (by omega)
      occ0 := fun x hx h1 h2 => by
        by_cases hxc : dst n E x = cj
        · have h3 := (D.out x hx (by omega)).1
          rw [← h3, hxj x hx hxc]; exact ho
        · exact D.occ0 x hx h1 (by omega)
      inv := fun s hs hsj hso => by
        obtain ⟨g1, g2, _⟩ := D.inv j hj hne ho
        by_cases hsi : s = i
        · subst hsi
          rw [upd_same]
          refine ⟨ht, fun x hx hx1 hx2 hxj' => ?_, fun _ hh => ?_⟩
          · by_cases hxi : x = s
            · rw [hxi, upd_same]; exact ho
            · rw [upd_ne _ _ hxi]; exact g2 x hx hx1 (by omega) hxi
          · omega
        · rw [upd_ne _ _ hsi] at hso ⊢
          obtain ⟨h1, h2, h3⟩ := D.inv s hs hsi hso
          refine ⟨h1, fun x hx hx1 hx2 hxj' => ?_, fun hlt hh => ?_⟩
          · by_cases hxi : x = i
            · rw [hxi, upd_same]; exact ho
            · rw [upd_ne _ _ hxi]; exact h2 x hx hx1 hx2 hxi
          · exact hsj (hxj s hs (by omega))
      slots := fun x hx => by
        by_cases hxi : x = i
        · rw [hxi, upd_same, upd_same]; exact D.slots j hj
        · rw [upd_ne _ _ hxi, upd_ne _ _ hxi]; exact D.slots x hx }

/-- What deleting has made of the table (h0, p0): (h, p). -/
structure Deleted (n : Nat) (h0 p0 : Nat → Int) (hh pp : Int) (h p : Nat → Int) : Prop where
  inv : CInv n h
  slots : ∀ x, x < n → (h x = 0 → p x = 0) ∧ (h x ≠ 0 → h x % 2 = 1)
  emp : ∃ E, E < n ∧ h E = 0
  perm : ∃ i0, i0 < n ∧ h0 i0 = hh ∧ p0 i0 = pp ∧ ((List.range n).map fun x => (h x, p x)).Perm (hole n h0 p0 i0)
  stretch : ∃ i L, i < n ∧ L < n ∧ (∀ k, k < L → h0 (adv n (hom n hh) k) ≠ 0) ∧ h0 (adv n (hom n hh) L) = 0 ∧ dst n (hom n hh) i < L ∧
    (∀ x, x < n → dst n (hom n hh) x < L → (h x = 0 ↔ x = i)) ∧ (∀ x, x < n → ¬ dst n (hom n hh) x < L → h x = h0 x ∧ p x = p0 x)

theorem dinv_end {n E : Nat} {h0 p0 : Nat → Int} {i0 : Nat} {h p : Nat → Int} {i cj : Nat} (hE : E < n) (he : h0 E = 0) (hi0 : i0 < n) (ho0 : h0 i0 ≠ 0) (hinv : LInv n E h0)
    (D : DInv n E h0 p0 i0 h p i cj) (hz : h (adv n E cj) = 0) : Deleted n h0 p0 (h0 i0) (p0 i0) (upd h i 0) (upd p i 0) := by
  have hj := adv_lt (n := n) (k := cj) hE D.top
  have hup := D.up
  have hlo := D.lo
  have htop := D.top
  have hcE : dst n E E = 0 := dst_self n E
  have hci0 : dst n E i0 ≠ 0 := fun h1 => by
    have : i0 = E := dst_inj hE hi0 hE (by rw [h1, hcE])
    subst this; exact ho0 he
  have hEh : h E = 0 := by rw [(D.out E hE (by omega)).1]; exact he
  have hEh' : upd h i 0 E = 0 := by unfold upd; split <;> first | rfl | exact hEh
  -- the place where the scan ended
  have hcj : cj < n → dst n E (adv n E cj) = cj := fun hc => dst_adv hE hc
  have hz0 : h0 (adv n E cj) = 0 := by
    by_cases hc : cj < n
    · rw [← (D.out _ hj (by rw [hcj hc]; omega)).1]; exact hz
    · rw [show cj = n by omega, adv_full hE]; exact he
  have hl : LInv n E (upd h i 0) := by
    intro s hs hso
    have hsi : s ≠ i := fun e => by rw [e, upd_same] at hso; exact hso rfl
    unfold LAt
    rw [upd_ne _ _ hsi] at hso ⊢
    obtain ⟨h1, h2, h3⟩ := D.inv s hs hsi hso
    refine ⟨h1, fun x hx hx1 hx2 => ?_⟩
    have hxi : x ≠ i := by
      intro e
      subst e
      by_cases hc : dst n E s < cj
      · exact h3 hc ⟨hx1, hx2⟩
      · have hs' := dst_lt hE hs
        have hcn : cj < n := by omega
        have hcc := hcj hcn
        by_cases hsc : dst n E s = cj
        · have : s = adv n E cj := dst_inj hE hs hj (by rw [hcc, hsc])
          rw [this] at hso; exact hso hz
        · have hjx : adv n E cj ≠ x := fun e => by rw [← e, hcc] at hup; omega
          exact h2 _ hj (by omega) (by omega) hjx hz
    rw [upd_ne _ _ hxi]
    exact h2 x hx hx1 hx2 hxi
  have hh := hom_lt (n := n) (by omega) (h0 i0)
  obtain ⟨g1, g2⟩ := hinv i0 hi0 ho0
  refine ⟨(cinv_linv hE hEh').2 hl, ?_, ⟨E, hE, hEh'⟩, ⟨i0, hi0, rfl, rfl, ?_⟩, ?_⟩
  · intro x hx
    by_cases hxi : x = i
    · rw [hxi, upd_same, upd_same]; exact ⟨fun _ => rfl, fun hne => absurd rfl hne⟩
    · rw [upd_ne _ _ hxi, upd_ne _ _ hxi]; exact D.slots x hx
  · have e : ((List.range n).map fun x => (upd h i 0 x, upd p i 0 x)) = hole n h p i := by
      unfold hole
      refine List.map_congr_left fun x _ => ?_
      by_cases hxi : x = i
      · simp [hxi, upd_same]
      · simp [hxi, upd_ne]
    rw [e]; exact D.perm
  · -- the stretch
    have hfrom : ∀ x, x < n → dst n E (hom n (h0 i0)) ≤ dst n E x → dst n (hom n (h0 i0)) x = dst n E x - dst n E (hom n (h0 i0)) := fun x hx hle => dst_from hE hh hx hle
    have hback : ∀ x, x < n → ¬ dst n E (hom n (h0 i0)) ≤ dst n E x → n - dst n E (hom n (h0 i0)) ≤ dst n (hom n (h0 i0)) x := by
      intro x hx hle
      clear D hinv g2 hl hfrom
      generalize hom n (h0 i0) = g at *
      unfold dst at *
      repeat' split at hle
      all_goals ((repeat' split) <;> omega)
    have hadv : ∀ k, dst n E (hom n (h0 i0)) + k < n → dst n E (adv n (hom n (h0 i0)) k) = dst n E (hom n (h0 i0)) + k := by
      intro k hk
      clear D hinv g2 hl hfrom hback
      generalize hom n (h0 i0) = g at *
      unfold dst adv at *
      repeat' split at hk
      all_goals ((repeat' split) <;> omega)
    have hadvj : adv n (hom n (h0 i0)) (cj - dst n E (hom n (h0 i0))) = adv n E cj := by
      have hgle : dst n E (hom n (h0 i0)) ≤ cj := by omega
      have hglt := dst_lt hE hh
      clear D hinv g2 hl hfrom hback hadv hcj hz0 hz hj
      generalize hom n (h0 i0) = g at *
      unfold dst adv at *
      repeat' split at hgle
      all_goals ((repeat' split) <;> omega)
    refine ⟨i, cj - dst n E (hom n (h0 i0)), D.hi, ?_, ?_, ?_, ?_, ?_, ?_⟩
    · -- L < n: were it n, the home would be E itself
      rcases Nat.lt_or_ge (cj - dst n E (hom n (h0 i0))) n with h1 | h1
      · exact h1
      · exfalso
        have : hom n (h0 i0) = E := dst_inj hE hh hE (by rw [hcE]; omega)
        exact g2 E hE (by rw [this]; exact Nat.le_refl _) (by rw [hcE]; omega) he
    · intro k hk
      have hkn : dst n E (hom n (h0 i0)) + k < n := by omega
      have hc := hadv k hkn
      have hx := adv_lt (n := n) (k := k) hh (by omega)
      by_cases hlt : dst n E (adv n (hom n (h0 i0)) k) < dst n E i0
      · exact g2 _ hx (by omega) (by omega)
      · exact D.occ0 _ hx (by omega) (by omega)
    · rw [hadvj]; exact hz0
    · rw [hfrom i D.hi (by omega)]; omega
    · intro x hx hlt
      have hle : dst n E (hom n (h0 i0)) ≤ dst n E x := by
        by_cases hle : dst n E (hom n (h0 i0)) ≤ dst n E x
        · exact hle
        · have := hback x hx hle; omega
      rw [hfrom x hx hle] at hlt
      by_cases hxi : x = i
      · simp [hxi, upd_same]
      · rw [upd_ne _ _ hxi]
        refine ⟨fun h1 => absurd h1 ?_, fun h1 => absurd h1 hxi⟩
        by_cases hxl : dst n E i0 ≤ dst n E x
        · exact D.occ x hx hxl (by omega)
        · rw [(D.out x hx (by omega)).1]
          exact g2 x hx hle (by omega)
    · intro x hx hlt
      have hxi : x ≠ i := fun e => by subst e; exact hlt (by rw [hfrom x hx (by omega)]; omega)
      rw [upd_ne _ _ hxi, upd_ne _ _ hxi]
      refine D.out x hx fun hb => hlt ?_
      rw [hfrom x hx (by omega)]; omega

end Go.Proofs.Qxb6602356a.Hx
