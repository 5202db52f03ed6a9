import Derived.Test.Qxb6602356aW6
import Derived.Test.Qxb6602356aLaw
namespace Go.Proofs.Qxb6602356a
open Go.RowKit Hx
set_option linter.unusedVariables false

/-- A list of pairs as cells. -/
def flat (l : List (Int × Int)) : List Value := l.flatMap fun q => [.int .u64 q.1, .int .i64 q.2]
theorem flat_nil : flat [] = [] := rfl
theorem flat_snoc (l : List (Int × Int)) (a b : Int) : flat (l ++ [(a, b)]) = flat l ++ [.int .u64 a, .int .i64 b] := by simp [flat]
theorem flat_length (l : List (Int × Int)) : (flat l).length = l.length * 2 := by
  induction l with
  | nil => rfl
  | cons x l ih => simp [flat] at ih ⊢; omega
theorem flat_get (l : List (Int × Int)) : ∀ (j : Nat) (hj : j < l.length), (flat l)[j * 2]? = some (.int .u64 l[j].1) ∧ (flat l)[j * 2 + 1]? = some (.int .i64 l[j].2) := by
  induction l with
  | nil => intro j hj; simp at hj
  | cons x l ih =>
    intro j hj
    cases j with
    | zero => simp [flat]
    | succ j =>
      have := ih j (by simpa using hj)
      have e1 : (j + 1) * 2 = j * 2 + 1 + 1 := by omega
      have e2 : (j + 1) * 2 + 1 = (j * 2 + 1) + 1 + 1 := by omega
      simp only [flat, List.flatMap_cons, List.cons_append, List.nil_append, e1, List.getElem?_cons_succ, List.getElem_cons_succ] at this ⊢
      exact this

/-- The slice at the head of block g owns the pairs l. -/
def Own (w : World) (base g cap : Nat) (l : List (Int × Int)) : Prop := w.ownsRow base 37 2 (.slice (some ⟨g, 0, none⟩) l.length cap) l.length (flat l)

theorem Own.cells {w : World} {base g cap : Nat} {l : List (Int × Int)} (h : Own w base g cap l) (j : Nat) (hj : j < l.length) :
    w.cell? ⟨g, j * 2, none⟩ = some (.int .u64 l[j].1) ∧ w.cell? ⟨g, j * 2 + 1, none⟩ = some (.int .i64 l[j].2) := by
  obtain ⟨h1, h2⟩ := h
  rcases h2 with ⟨h2, _⟩ | ⟨g', cap', cur, hv, hb, hh, hn, hm, hs, ht⟩
  · simp at h2
  · simp only [Value.slice.injEq, Option.some.injEq, Addr.mk.injEq, and_true, true_and] at hv
    obtain ⟨rfl, rfl⟩ := hv
    have hf := flat_get l j hj
    have hlen := flat_length l
    have key : ∀ i u, (flat l)[i]? = some u → w.cell? ⟨g, i, none⟩ = some u := fun i u hu => by
      rw [← ht, List.getElem?_take] at hu
      split at hu
      · simp only [World.cell?, hh]
        simpa using hu
      · cases hu
    exact ⟨key _ _ hf.1, key _ _ hf.2⟩
theorem Own.lt {w : World} {base g cap : Nat} {l : List (Int × Int)} (h : Own w base g cap l) : base ≤ g ∧ g < w.heap.size := World.ownsRow.lt h g rfl
theorem Own.below {w w' : World} {base g cap : Nat} {l : List (Int × Int)} (h : Own w base g cap l) (hb : Below w.heap.size w w') : Own w' base g cap l := by
  refine ⟨h.1, ?_⟩
  rcases h.2 with hn | ⟨g', cap', cur, hv, hbb, hh, r⟩
  · exact .inl hn
  · refine .inr ⟨g', cap', cur, hv, hbb, ?_, r⟩
    rw [hb.block g' (Array.getElem?_eq_some_iff.1 hh).1]; exact hh
theorem Own.drewN {w : World} {base g cap : Nat} {l : List (Int × Int)} (h : Own w base g cap l) (n : Nat) : Own (w.drewN n) base g cap l := h
theorem Own.mono {w : World} {base base' g cap : Nat} {l : List (Int × Int)} (h : Own w base g cap l) (hb : base' ≤ base) : Own w base' g cap l := by
  refine ⟨h.1, ?_⟩
  rcases h.2 with hn | ⟨g', cap', cur, hv, hbb, r⟩
  · exact .inl hn
  · exact .inr ⟨g', cap', cur, hv, by omega, r⟩

theorem new_pair (w : World) (a b : Int) : ∀ (j : Nat) (u : Value), [Value.int .u64 a, Value.int .i64 b][j]? = some u → (w.alloc (.cells #[.int .u64 a, .int .i64 b] 37)).cell? ((⟨w.heap.size, 0, none⟩ : Addr).add j) = some u := by
  intro j u hu
  match j, hu with
  | 0, hu => simp at hu; subst hu; simp [Addr.add]
  | 1, hu => simp at hu; subst hu; simp [Addr.add]
theorem pair_oneCell (a b : Int) : ∀ u ∈ [Value.int .u64 a, Value.int .i64 b], u.oneCell' = true := by
  intro u hu
  simp at hu
  rcases hu with rfl | rfl <;> rfl

set_option maxHeartbeats 1000000 in
theorem items_any (b off b2 off2 n c c2 : Nat) (h p : Nat → Int) (hn : 1 ≤ n) (hn2 : n ≤ 65536) (w : World) (hb : b < w.heap.size) (hb2 : b2 < w.heap.size)
    (hH : ∀ j, j < n → w.cell? ⟨b, off + j, none⟩ = some (.int .u64 (h j))) (hP : ∀ j, j < n → w.cell? ⟨b2, off2 + j, none⟩ = some (.int .i64 (p j))) :
    Calls Try.prog 14 #[.slice (some ⟨b, off, none⟩) n c, .slice (some ⟨b2, off2, none⟩) n c2] w fun e w' =>
      e = .returned (.slice (some ⟨w.heap.size, 0, none⟩) (itemsUpto h p n).length n) ∧ Own w' w.heap.size w.heap.size n (itemsUpto h p n) ∧ Below w.heap.size w w' := by
  have HH := (show Hid _ from hH)
  have HP := (show Hid _ from hP)
  clear hH hP
  obtain ⟨i0, hi, hz0, hz1, hz2⟩ := info_parts info37
  go_enter Try.func14, Try.ntmps14
  go_wp2_with (at_make; refine wpList_make_own _ rfl _ _ 34 rfl w.heap.size 37 i0 _ 2 Try.underlying34 hi hz0 hz1 .i64 .i64 _ n rfl rfl rfl (by rw [hz2]; omega) (by unfold maxLen; omega) (Nat.le_refl _) ?_; intro w1 hown1 hgrow1)
  go_loopg [5, 6] n (fun g v i ww => ∃ k : Nat, k + g = n ∧ i = .int .i64 k ∧ v = .slice (some ⟨w.heap.size, 0, none⟩) (itemsUpto h p k).length n ∧ Own ww w.heap.size w.heap.size n (itemsUpto h p k) ∧ Below w.heap.size w ww)
  case atStart => exact ⟨0, by omega, rfl, rfl, hown1, (Below.refl _ _).grown hgrow1 (Nat.le_refl _) (fun _ h => by cases h)⟩
  case round =>
    obtain ⟨k, hk, rfl, rfl, hO, hW⟩ := hrel
    have hil := itemsUpto_le h p k
    have hlt := hO.lt
    clear hown1 hgrow1
    have HO := (show Hid _ from hO)
    have HW := (show Hid _ from hW)
    clear hO
    by_cases hkn : k < n
    · have c1 := (hW.cell (p := ⟨b, off + k, none⟩) hb).trans (HH.out k hkn)
      have c2' := (hW.cell (p := ⟨b2, off2 + k, none⟩) hb2).trans (HP.out k hkn)
      clear hW
      obtain ⟨v, hv⟩ : ∃ v, v = h k := ⟨_, rfl⟩
      obtain ⟨q, hqq⟩ : ∃ q, q = p k := ⟨_, rfl⟩
      obtain ⟨L, hL⟩ : ∃ L, L = (itemsUpto h p k).length := ⟨_, rfl⟩
      rw [← hv] at c1
      rw [← hqq] at c2'
      rw [← hL] at hil
      rw [← hL]
      have HV := (show Hid _ from hv)
      have HQ := (show Hid _ from hqq)
      have HL := (show Hid _ from hL)
      clear hv hqq hL
      by_cases hvz : v = 0
      · rw [hvz] at c1
        have Z : Hid (h k = 0) := by rw [← hvz]; exact HV.out.symm
        clear hvz HV
        go_wp2_with fail
        go_roundg (gk - 1)
        case measure => omega
        case rel => exact ⟨k + 1, by omega, by go_num, by rw [itemsUpto_miss h p k Z.out, HL.out], by rw [itemsUpto_miss h p k Z.out]; exact HO.out, HW.out⟩
      · have hvb : (v != 0) = true := by simpa using hvz
        have Z : Hid (h k ≠ 0) := by rw [← HV.out]; exact hvz
        clear hvz
        go_wp2_with fail
        have hown : wr.ownsRow w.heap.size 37 2 (.slice (some ⟨w.heap.size, 0, none⟩) L n) L (flat (itemsUpto h p k)) := by rw [HL.out]; exact HO.out
        have HOW := (show Hid _ from hown)
        obtain ⟨ι, W, hne, hSW, hs1, hs2⟩ := Law.class2 wr.drew ⟨b, off + k, none⟩ ⟨b2, off2 + k, none⟩ _ _ c1 c2'
        have HSW := (show Hid _ from hSW)
        clear hSW hown
        refine Law.wp_region_head W 10 (by kernel_rfl) (by kernel_rfl) (by kernel_rfl) (by kernel_rfl) (by kernel_rfl) (fun _ _ d _ _ h => by cases d <;> exact h) (HSW.out _ c1 c2') ?_
        intro Q0 hQ0
        simp only [List.take_succ_cons, List.take_zero]
        repeat (go_big_quiet_step (fail))
        refine wpQuiet_nil (hQ0 _ ?_)
        clear hQ0 Q0 hs1 hs2 hne
        refine Law.wpS_one (i := 10) (by kernel_rfl) rfl rfl ?_
        intro K hK
        go_simp
        refine hK _ _ (HSW.out _ (by rw [World.cell?_drew, World.cell?_alloc_past _ _ _ (by omega)]; exact c1) (by rw [World.cell?_drew, World.cell?_alloc_past _ _ _ (by omega)]; exact c2')) ?_
        clear hK K
        refine Law.wpS_append (i := 11) (by kernel_rfl) rfl rfl _ _ 34 rfl w.heap.size 37 i0 2 Try.underlying34 hi hz1 w.heap.size L n (flat (itemsUpto h p k)) rfl (by exact (World.ownsRow.alloc HOW.out _).drew) ⟨wr.heap.size, 0, none⟩ 1 1 [.int .u64 v, .int .i64 q] rfl rfl (by exact new_pair wr v q) (pair_oneCell _ _) (by omega) ?_
        intro w2 hown2 hgrow2
        have d1 : w2.cell? ⟨b, off + k, none⟩ = some (.int .u64 v) := hgrow2.cell (by rw [World.cell?_drew, World.cell?_alloc_past _ _ _ (by omega)]; exact c1) (by simp; omega)
        have d2 : w2.cell? ⟨b2, off2 + k, none⟩ = some (.int .i64 q) := hgrow2.cell (by rw [World.cell?_drew, World.cell?_alloc_past _ _ _ (by omega)]; exact c2') (by simp; omega)
        refine ⟨HSW.out _ d1 d2, ?_⟩
        refine Law.wpS_one (i := 12) (by kernel_rfl) rfl rfl ?_
        intro K hK
        go_simp
        refine hK _ _ (HSW.out _ d1 d2) (Law.wpS_end (by kernel_rfl) ?_)
        clear hK K HSW d1 d2
        go_wp2_with fail
        go_roundg (gk - 1)
        case measure => omega
        case rel =>
          have e1 : itemsUpto h p (k + 1) = itemsUpto h p k ++ [(v, q)] := by rw [itemsUpto_hit h p k Z.out, HV.out, HQ.out]
          refine ⟨k + 1, by omega, by go_num, by rw [e1, List.length_append, ← HL.out]; rfl, ?_, ?_⟩
          · rw [e1]
            unfold Own
            rw [flat_snoc, List.length_append, ← HL.out]
            exact hown2
          · exact ((HW.out.drew.alloc (by simp; omega) _).grown hgrow2 (by simp; omega) (fun _ h => by cases h; exact Nat.le_refl _))
    · go_wp2_with fail
      go_ret
      obtain rfl : n = k := by omega
      exact ⟨rfl, HO.out, HW.out⟩
end Go.Proofs.Qxb6602356a
