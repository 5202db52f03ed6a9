import Derived.Test.Qxb6602356aW7
namespace Go.Proofs.Qxb6602356a
open Go.RowKit Hx
set_option linter.unusedVariables false

/-- From offset 'off' of block b on lie the pairs l. -/
def Prs (w : World) (b off : Nat) (l : List (Int × Int)) : Prop := ∀ j (hj : j < l.length), w.cell? ⟨b, off + j * 2, none⟩ = some (.int .u64 l[j].1) ∧ w.cell? ⟨b, off + j * 2 + 1, none⟩ = some (.int .i64 l[j].2)

theorem Prs.below {w w' : World} {b off : Nat} {l : List (Int × Int)} (h : Prs w b off l) (hb : b < w.heap.size) (hw : Below w.heap.size w w') : Prs w' b off l := fun j hj =>
  ⟨(hw.cell (p := ⟨b, off + j * 2, none⟩) hb).trans (h j hj).1, (hw.cell (p := ⟨b, off + j * 2 + 1, none⟩) hb).trans (h j hj).2⟩
theorem Prs.take {w : World} {b off : Nat} {l : List (Int × Int)} (h : Prs w b off l) (m : Nat) : Prs w b off (l.take m) := fun j hj => by
  have hj' : j < l.length := by simp at hj; omega
  simpa using h j hj'
theorem Prs.drop {w : World} {b off : Nat} {l : List (Int × Int)} (h : Prs w b off l) (m : Nat) : Prs w b (off + m * 2) (l.drop m) := fun j hj => by
  have hj' : m + j < l.length := by simp at hj; omega
  have := h (m + j) hj'
  rw [show off + (m + j) * 2 = off + m * 2 + j * 2 by omega] at this
  simpa using this
theorem Own.prs {w : World} {base g cap : Nat} {l : List (Int × Int)} (h : Own w base g cap l) : Prs w g 0 l := fun j hj => by
  simpa using h.cells j hj

theorem own_new (w : World) (base : Nat) (hb : base ≤ w.heap.size) (l : List (Int × Int)) (C : Array Value) (hl : l.length ≤ 65536) (hC : C.toList = flat l) : Own (w.alloc (.cells C 37)) base w.heap.size l.length l := by
  have hf := flat_length l
  have hs : C.size = l.length * 2 := by rw [← Array.length_toList, hC]; exact hf
  exact ⟨hf, .inr ⟨w.heap.size, l.length, C, rfl, hb, heap_alloc_new w _, Nat.le_refl _, by unfold maxLen; omega, hs, by rw [hC, List.take_of_length_le (by omega)]⟩⟩

/-- What sortPairs leaves. -/
def SortPost (l : List (Int × Int)) (n : Nat) (w : World) (e : Ending) (w' : World) : Prop :=
  ∃ g cap out, e = .returned (.slice (some ⟨g, 0, none⟩) n cap) ∧ SortOf l out ∧ out.length = n ∧ Own w' w.heap.size g cap out ∧ Below w.heap.size w w'

theorem make_lit1 (w : World) : (Instr.makeSlice 34 (.int .i64 1) (.int .i64 1)).run Try.prog w = .ok (.slice (some ⟨w.heap.size, 0, none⟩) 1 1) (w.alloc (.cells #[.int .u64 0, .int .i64 0] 37)) := by
  obtain ⟨i, hi', hz, hs, hb⟩ := info_parts info37
  have hr := run_make (P := Try.prog) w 34 37 i _ Try.underlying34 hi' hz .i64 .i64 1 1 (by omega) (by omega) (by rw [hb]; omega) (by omega)
  have e : madeCells (Value.agg #[Value.int IntKind.u64 0, Value.int IntKind.i64 0]).cells (Int.toNat 1 * 2) = #[.int .u64 0, .int .i64 0] := by kernel_rfl
  rw [hs, e] at hr
  exact hr
theorem make_lit0 (w : World) : (Instr.makeSlice 34 (.int .i64 0) (.int .i64 0)).run Try.prog w = .ok (.slice (some ⟨w.heap.size, 0, none⟩) 0 0) (w.alloc (.cells #[] 37)) := by
  obtain ⟨i, hi', hz, hs, hb⟩ := info_parts info37
  have hr := run_make (P := Try.prog) w 34 37 i _ Try.underlying34 hi' hz .i64 .i64 0 0 (by omega) (by omega) (by rw [hb]; omega) (by omega)
  have e : madeCells (Value.agg #[Value.int IntKind.u64 0, Value.int IntKind.i64 0]).cells (Int.toNat 0 * 2) = #[] := by kernel_rfl
  rw [hs, e] at hr
  exact hr

set_option maxHeartbeats 1000000 in
theorem sort_nil (b off c : Nat) (w : World) : Calls Try.prog 28 #[.slice (some ⟨b, off, none⟩) 0 c] w fun e w' => SortPost [] 0 w e w' := by
  have hmk := make_lit0
  go_enter Try.func28, Try.ntmps28
  go_wp2_with fail
  refine wp_loop_rounds 1 ?_
  rw [rounds_succ]
  go_wp2_with fail
  go_ret
  exact ⟨w.heap.size, 0, [], rfl, sortOf_short (by simp), rfl, own_new w _ (Nat.le_refl _) [] #[] (by simp) rfl, (Below.refl _ _).alloc (Nat.le_refl _) _⟩

set_option maxHeartbeats 1000000 in
theorem sort_one (b off c : Nat) (x y : Int) (w : World) (c1 : w.cell? ⟨b, off, none⟩ = some (.int .u64 x)) (c2 : w.cell? ⟨b, off + 1, none⟩ = some (.int .i64 y)) (hb : b < w.heap.size) :
    Calls Try.prog 28 #[.slice (some ⟨b, off, none⟩) 1 c] w fun e w' => SortPost [(x, y)] 1 w e w' := by
  have hmk := make_lit1
  go_enter Try.func28, Try.ntmps28
  go_wp2_with fail
  refine wp_loop_rounds 2 ?_
  rw [rounds_succ]
  go_wp2_with fail
  rw [rounds_succ]
  go_wp2_with fail
  go_ret
  exact ⟨w.heap.size, 1, [(x, y)], rfl, sortOf_short (by simp), rfl, own_new w _ (Nat.le_refl _) [(x, y)] _ (by simp) rfl, (Below.refl _ _).alloc (Nat.le_refl _) _⟩
/-! ### The merge -/
theorem mg_right {l r acc M : List (Int × Int)} {i j : Nat} (H : acc ++ (l.drop i).merge (r.drop j) le2 = M) (hi : i < l.length) (hj : j < r.length) (h : le2 l[i] r[j] = false) : (acc ++ [r[j]]) ++ (l.drop i).merge (r.drop (j + 1)) le2 = M := by
  rw [← H, merge_step_right hi hj h]; simp
theorem mg_left {l r acc M : List (Int × Int)} {i j : Nat} (H : acc ++ (l.drop i).merge (r.drop j) le2 = M) (hi : i < l.length) (hj : j < r.length) (h : le2 l[i] r[j] = true) : (acc ++ [l[i]]) ++ (l.drop (i + 1)).merge (r.drop j) le2 = M := by
  rw [← H, merge_step_left hi hj h]; simp

/-- The loops of the merge: what they know of the world. -/
structure Mg (w2 ww : World) (g1 g2 g3 n : Nat) (o1 o2 acc : List (Int × Int)) : Prop where
  p1 : Prs ww g1 0 o1
  p2 : Prs ww g2 0 o2
  own : Own ww w2.heap.size g3 n acc
  bel : Below w2.heap.size w2 ww

theorem Mg.grow {w2 ww w3 w4 : World} {g1 g2 g3 n : Nat} {o1 o2 acc : List (Int × Int)} {a b : Int} (H : Mg w2 ww g1 g2 g3 n o1 o2 acc) (h1 : g1 < w2.heap.size) (h2 : g2 < w2.heap.size) (h3 : w2.heap.size ≤ g3) (hb : Below ww.heap.size ww w3)
    (hg : w3.grownBy w4 (some g3)) (ho : w4.ownsRow w2.heap.size 37 2 (.slice (some ⟨g3, 0, none⟩) (acc.length + 1) n) (acc.length + 1) (flat acc ++ [.int .u64 a, .int .i64 b])) :
    Mg w2 w4 g1 g2 g3 n o1 o2 (acc ++ [(a, b)]) := by
  have hs := H.bel.size
  have hbs := hb.size
  have B1 : Below w2.heap.size w2 w3 := H.bel.trans (hb.mono hs)
  have B2 : Below w2.heap.size w2 w4 := B1.grown hg (by omega) (fun k e => by cases e; exact h3)
  have B3 : Below w2.heap.size ww w4 := (hb.mono hs).grown hg (by omega) (fun k e => by cases e; exact h3)
  refine ⟨fun j hj => ?_, fun j hj => ?_, ?_, B2⟩
  · exact ⟨(B3.cell (p := ⟨g1, 0 + j * 2, none⟩) h1).trans (H.p1 j hj).1, (B3.cell (p := ⟨g1, 0 + j * 2 + 1, none⟩) h1).trans (H.p1 j hj).2⟩
  · exact ⟨(B3.cell (p := ⟨g2, 0 + j * 2, none⟩) h2).trans (H.p2 j hj).1, (B3.cell (p := ⟨g2, 0 + j * 2 + 1, none⟩) h2).trans (H.p2 j hj).2⟩
  · unfold Own
    rw [flat_snoc, List.length_append]
    exact ho

theorem ownsRow_below {w w' : World} {base : Nat} {e : TypeId} {size : Nat} {v : Value} {n : Nat} {xs : List Value} (h : w.ownsRow base e size v n xs) (hb : Below w.heap.size w w') : w'.ownsRow base e size v n xs := by
  refine ⟨h.1, ?_⟩
  rcases h.2 with hn | ⟨g', cap', cur, hv, hbb, hh, r⟩
  · exact .inl hn
  · refine .inr ⟨g', cap', cur, hv, hbb, ?_, r⟩
    rw [hb.block g' (Array.getElem?_eq_some_iff.1 hh).1]; exact hh

theorem mg_start {w2 w3 : World} {b1 b2 c1 c2 g1 g2 n : Nat} {o1 o2 : List (Int × Int)} (h1 : g1 < w2.heap.size) (h2 : g2 < w2.heap.size) (O1 : Own w2 b1 g1 c1 o1) (O2 : Own w2 b2 g2 c2 o2)
    (ho : w3.ownsRow w2.heap.size 37 2 (.slice (some ⟨w2.heap.size, 0, none⟩) 0 n) 0 []) (hg : w2.grownBy w3 none) : Mg w2 w3 g1 g2 w2.heap.size n o1 o2 [] := by
  have B : Below w2.heap.size w2 w3 := (Below.refl _ _).grown hg (Nat.le_refl _) (fun _ h => by cases h)
  exact ⟨O1.prs.below h1 B, O2.prs.below h2 B, ho, B⟩

theorem sort_fin {l o1 o2 acc : List (Int × Int)} {n a d g1 g2 : Nat} {w w1 w2 ww : World} (hn : 2 ≤ n) (ha : a = n / 2) (hd : a + d = n) (S1 : SortOf (l.take (n / 2)) o1) (S2 : SortOf (l.drop (n / 2)) o2) (L2 : o2.length = n - n / 2) (LA : acc.length = a + d)
    (G : acc ++ o2.drop d = o1.merge o2 le2) (M : Mg w2 ww g1 g2 w2.heap.size n o1 o2 acc) (B1 : Below w.heap.size w w1) (B2 : Below w1.heap.size w1 w2) (hs : w.heap.size ≤ w2.heap.size) :
    SortPost l n w (.returned (.slice (some ⟨w2.heap.size, 0, none⟩) (a + d) n)) ww := by
  rw [List.drop_eq_nil_of_le (by omega), List.append_nil] at G
  rw [hd] at LA ⊢
  subst G
  exact ⟨w2.heap.size, n, _, rfl, sortOf_merge S1 S2, LA, M.own.mono hs, (B1.trans (B2.mono B1.size)).trans (M.bel.mono hs)⟩

set_option maxHeartbeats 4000000 in
theorem sort_big (N : Nat) (ih : ∀ (l : List (Int × Int)) (n b off c : Nat) (w : World), l.length = n → n ≤ N → n ≤ 65536 → n ≤ c → b < w.heap.size → Prs w b off l → Calls Try.prog 28 #[.slice (some ⟨b, off, none⟩) n c] w fun e w' => SortPost l n w e w')
    (l : List (Int × Int)) (b off c n : Nat) (w : World) (hN : Hid (n ≤ N + 1)) (hl : Hid (l.length = n)) (hn : 2 ≤ n) (hn2 : n ≤ 65536) (hc : n ≤ c) (hb : b < w.heap.size) (hP : Hid (Prs w b off l)) :
    Calls Try.prog 28 #[.slice (some ⟨b, off, none⟩) n c] w fun e w' => SortPost l n w e w' := by
  have IH := (show Hid _ from ih)
  clear ih
  obtain ⟨i0, hi, hz0, hz1, hz2⟩ := info_parts info37
  have hlt : (l.take (n / 2)).length = n / 2 := by have := hl.out; simp; omega
  have hld : (l.drop (n / 2)).length = n - n / 2 := by have := hl.out; simp; omega
  have HLT := (show Hid _ from hlt)
  have HLD := (show Hid _ from hld)
  clear hlt hld
  go_enter Try.func28, Try.ntmps28
  go_wp2_with fail
  refine (IH.out (l.take (n / 2)) (n / 2) b off c w HLT.out (by have := hN.out; omega) (by omega) (by omega) hb (hP.out.take _)).mono ?_
  rintro e w1 ⟨g1, cap1, o1, rfl, hs1, hl1, hO1, hW1⟩
  have HS1 := (show Hid _ from hs1)
  have HL1 := (show Hid _ from hl1)
  have HO1 := (show Hid _ from hO1)
  have HW1 := (show Hid _ from hW1)
  have hz1w := hW1.size
  clear hs1 hl1 hO1 hW1
  go_wp2_with fail
  refine (IH.out (l.drop (n / 2)) (n - n / 2) b (off + n / 2 * 2) (c - n / 2) w1 HLD.out (by have := hN.out; omega) (by omega) (by omega) (by omega) ((hP.out.below hb HW1.out).drop _)).mono ?_
  rintro e w2 ⟨g2, cap2, o2, rfl, hs2, hl2, hO2, hW2⟩
  have HS2 := (show Hid _ from hs2)
  have HL2 := (show Hid _ from hl2)
  have HO2 := (show Hid _ from hO2)
  have HW2 := (show Hid _ from hW2)
  have hz2w := hW2.size
  have hg1 : g1 < w2.heap.size := by have := (Own.lt HO1.out).2; omega
  have hg2 : g2 < w2.heap.size := (Own.lt hO2).2
  clear hs2 hl2 hO2 hW2
  go_wp2_with (at_make; refine wpList_make_own _ rfl _ _ 34 rfl w2.heap.size 37 i0 _ 2 Try.underlying34 hi hz0 hz1 .i64 .i64 _ n rfl rfl rfl (by rw [hz2]; omega) (by unfold maxLen; omega) (Nat.le_refl _) ?_; intro w3 hown3 hgrow3)
  have M0 : Hid (Mg w2 w3 g1 g2 w2.heap.size n o1 o2 []) := mg_start hg1 hg2 (Own.below HO1.out HW2.out) HO2.out hown3 hgrow3
  clear hown3 hgrow3
  go_loopg [8, 9, 10] n (fun g v i j ww => ∃ (a d : Nat) (acc : List (Int × Int)), a ≤ n / 2 ∧ d ≤ n - n / 2 ∧ acc.length = a + d ∧ g + (a + d) = n ∧ i = .int .i64 a ∧ j = .int .i64 d ∧
    v = .slice (some ⟨w2.heap.size, 0, none⟩) (a + d) n ∧ Mg w2 ww g1 g2 w2.heap.size n o1 o2 acc ∧ acc ++ (o1.drop a).merge (o2.drop d) le2 = o1.merge o2 le2)
  case atStart => exact ⟨0, 0, [], by omega, by omega, rfl, by omega, rfl, rfl, rfl, M0.out, by simp⟩
  case round =>
    obtain ⟨a, d, acc, ha, hd, hacc, hg, rfl, rfl, rfl, hM, hmg⟩ := hrel
    have HM := (show Hid _ from hM)
    have HG := (show Hid _ from hmg)
    have HA := (show Hid _ from hacc)
    have hown : wr.ownsRow w2.heap.size 37 2 (.slice (some ⟨w2.heap.size, 0, none⟩) (a + d) n) (a + d) (flat acc) := by rw [← hacc]; exact hM.own
    have hwr := hM.bel.size
    have hlo := (Own.lt hM.own).2
    clear hM hmg hacc
    have HOW := (show Hid _ from hown)
    clear hown
    by_cases hbo : a < n / 2 ∧ d < n - n / 2
    · obtain ⟨ha2, hd2⟩ := hbo
      · have ha3 : a < o1.length := by have := HL1.out; omega
        have hd3 : d < o2.length := by have := HL2.out; omega
        have x1 := (HM.out.p1 a ha3).1
        have x2 := (HM.out.p1 a ha3).2
        have y1 := (HM.out.p2 d hd3).1
        have y2 := (HM.out.p2 d hd3).2
        simp only [Nat.zero_add] at x1 x2 y1 y2
        obtain ⟨lx, elx⟩ : ∃ q, q = o1[a] := ⟨_, rfl⟩
        obtain ⟨rx, erx⟩ : ∃ q, q = o2[d] := ⟨_, rfl⟩
        rw [← elx] at x1 x2
        rw [← erx] at y1 y2
        obtain ⟨l1, l2⟩ := lx
        obtain ⟨r1, r2⟩ := rx
        simp only at x1 x2 y1 y2
        have EL := (show Hid _ from elx)
        have ER := (show Hid _ from erx)
        clear elx erx
        cases hle : le2 (l1, l2) (r1, r2) with
        | false =>
          have HLE : Hid (le2 (l1, l2) (r1, r2) = false) := hle
          go_wp2_with fail
          go_still_tail 8, (by kernel_rfl)
          go_wp2_with (first
            | (go_at_call 30; refine (less_any _ _ _ _ _).mono ?_; rintro e w4 ⟨rfl, hb4⟩; have z1 := (hb4.cell (p := ⟨g2, d * 2, none⟩) (by show g2 < wr.heap.size; omega)).trans y1; have z2 := (hb4.cell (p := ⟨g2, d * 2 + 1, none⟩) (by show g2 < wr.heap.size; omega)).trans y2; have HB4 : Hid (Below wr.heap.size wr w4) := (Below.refl _ _).drew.trans hb4; have hz4 : wr.heap.size ≤ w4.heap.size := HB4.out.size; clear hb4)
            | (at_builtin; refine wpList_append_fits _ rfl _ _ 34 rfl w2.heap.size 37 i0 2 Try.underlying34 hi hz1 w2.heap.size (a + d) n (flat acc) rfl (by exact (ownsRow_below HOW.out HB4.out).alloc _) ⟨w4.heap.size, 0, none⟩ 1 1 [.int .u64 r1, .int .i64 r2] rfl rfl (by exact new_pair w4 r1 r2) (pair_oneCell _ _) (by omega) ?_; intro w5 hown5 hgrow5))
          go_roundg (gk - 1)
          case measure => omega
          case rel =>
            refine ⟨a, d + 1, acc ++ [(r1, r2)], by omega, by omega, by rw [List.length_append, HA.out]; simp; omega, by omega, rfl, by go_num, by rw [Nat.add_assoc], ?_, ?_⟩
            · exact HM.out.grow hg1 hg2 (Nat.le_refl _) (HB4.out.alloc (by omega) _) hgrow5 (by rw [HA.out]; exact hown5)
            · have := mg_right HG.out ha3 hd3 (by rw [← EL.out, ← ER.out]; exact HLE.out)
              rw [← ER.out] at this; exact this
        | true =>
          have HLE : Hid (le2 (l1, l2) (r1, r2) = true) := hle
          go_wp2_with fail
          go_still_tail 8, (by kernel_rfl)
          go_wp2_with (first
            | (go_at_call 30; refine (less_any _ _ _ _ _).mono ?_; rintro e w4 ⟨rfl, hb4⟩; have z1 := (hb4.cell (p := ⟨g1, a * 2, none⟩) (by show g1 < wr.heap.size; omega)).trans x1; have z2 := (hb4.cell (p := ⟨g1, a * 2 + 1, none⟩) (by show g1 < wr.heap.size; omega)).trans x2; have HB4 : Hid (Below wr.heap.size wr w4) := (Below.refl _ _).drew.trans hb4; have hz4 : wr.heap.size ≤ w4.heap.size := HB4.out.size; clear hb4)
            | (at_builtin; refine wpList_append_fits _ rfl _ _ 34 rfl w2.heap.size 37 i0 2 Try.underlying34 hi hz1 w2.heap.size (a + d) n (flat acc) rfl (by exact (ownsRow_below HOW.out HB4.out).alloc _) ⟨w4.heap.size, 0, none⟩ 1 1 [.int .u64 l1, .int .i64 l2] rfl rfl (by exact new_pair w4 l1 l2) (pair_oneCell _ _) (by omega) ?_; intro w5 hown5 hgrow5))
          go_roundg (gk - 1)
          case measure => omega
          case rel =>
            refine ⟨a + 1, d, acc ++ [(l1, l2)], by omega, by omega, by rw [List.length_append, HA.out]; simp; omega, by omega, by go_num, rfl, by rw [show a + 1 + d = a + d + 1 by omega], ?_, ?_⟩
            · exact HM.out.grow hg1 hg2 (Nat.le_refl _) (HB4.out.alloc (by omega) _) hgrow5 (by rw [HA.out]; exact hown5)
            · have := mg_left HG.out ha3 hd3 (by rw [← EL.out, ← ER.out]; exact HLE.out)
              rw [← EL.out] at this; exact this
    · have DN : Hid (n / 2 ≤ a ∨ n - n / 2 ≤ d) := by show _ ∨ _; omega
      have hparts : (a < n / 2 ∧ decide (d < n - n / 2) = false) ∨ n / 2 ≤ a := by
        by_cases hx : a < n / 2
        · exact .inl ⟨hx, decide_eq_false (by omega)⟩
        · exact .inr (by omega)
      have G0 : Hid (acc ++ o1.drop a ++ o2.drop d = o1.merge o2 le2) := by
        have := HG.out
        rw [merge_done (by have := HL1.out; have := HL2.out; have := DN.out; omega)] at this
        rw [List.append_assoc]
        exact this
      clear hbo
      rcases hparts with ⟨hp1, hp2'⟩ | hp1
      all_goals
        go_wp2_with fail
        go_loopg [8, 9] (n / 2 - a) (fun g v i ww => ∃ (a' : Nat) (acc' : List (Int × Int)), a' ≤ n / 2 ∧ acc'.length = a' + d ∧ g + a' = n / 2 ∧ i = .int .i64 a' ∧ v = .slice (some ⟨w2.heap.size, 0, none⟩) (a' + d) n ∧
          Mg w2 ww g1 g2 w2.heap.size n o1 o2 acc' ∧ acc' ++ o1.drop a' ++ o2.drop d = o1.merge o2 le2)
        case atStart => exact ⟨a, acc, ha, HA.out, by omega, rfl, rfl, HM.out, G0.out⟩
        case round =>
          clear hp1 HM HG HA HOW DN G0 hlo
          obtain ⟨a', acc', ha', hacc', hg', rfl, rfl, hM', hG'⟩ := hrel
          have HM' := (show Hid _ from hM')
          have HG' := (show Hid _ from hG')
          have HA' := (show Hid _ from hacc')
          have HOW' : Hid (wr.ownsRow w2.heap.size 37 2 (.slice (some ⟨w2.heap.size, 0, none⟩) (a' + d) n) (a' + d) (flat acc')) := by rw [← hacc']; exact hM'.own
          have hwr' := hM'.bel.size
          have hlo' := (Own.lt hM'.own).2
          clear hM' hG' hacc'
          by_cases ha2 : a' < n / 2
          · have ha3 : a' < o1.length := by have := HL1.out; omega
            have x1 := (HM'.out.p1 a' ha3).1
            have x2 := (HM'.out.p1 a' ha3).2
            simp only [Nat.zero_add] at x1 x2
            obtain ⟨lx, elx⟩ : ∃ q, q = o1[a'] := ⟨_, rfl⟩
            rw [← elx] at x1 x2
            obtain ⟨l1, l2⟩ := lx
            simp only at x1 x2
            have EL := (show Hid _ from elx)
            clear elx
            go_wp2_with (at_builtin; refine wpList_append_fits _ rfl _ _ 34 rfl w2.heap.size 37 i0 2 Try.underlying34 hi hz1 w2.heap.size (a' + d) n (flat acc') rfl (by exact World.ownsRow.alloc HOW'.out _) ⟨wr.heap.size, 0, none⟩ 1 1 [.int .u64 l1, .int .i64 l2] rfl rfl (by exact new_pair wr l1 l2) (pair_oneCell _ _) (by omega) ?_; intro w5 hown5 hgrow5)
            go_roundg (gk - 1)
            case measure => omega
            case rel =>
              refine ⟨a' + 1, acc' ++ [(l1, l2)], by omega, by rw [List.length_append, HA'.out]; simp; omega, by omega, by go_num, by rw [show a' + 1 + d = a' + d + 1 by omega], ?_, ?_⟩
              · exact HM'.out.grow hg1 hg2 (Nat.le_refl _) ((Below.refl _ _).alloc (by omega) _) hgrow5 (by rw [HA'.out]; exact hown5)
              · have := HG'.out
                rw [List.drop_eq_getElem_cons ha3, ← EL.out] at this
                rw [← this]; simp
          · have G1 : Hid (acc' ++ o2.drop d = o1.merge o2 le2) := by
              have := HG'.out
              rw [List.drop_eq_nil_of_le (by have := HL1.out; omega), List.append_nil] at this
              exact this
            go_wp2_with fail
            go_loopg [8, 10] (n - n / 2 - d) (fun g v i ww => ∃ (d' : Nat) (acc' : List (Int × Int)), d' ≤ n - n / 2 ∧ acc'.length = a' + d' ∧ g + d' = n - n / 2 ∧ i = .int .i64 d' ∧ v = .slice (some ⟨w2.heap.size, 0, none⟩) (a' + d') n ∧
              Mg w2 ww g1 g2 w2.heap.size n o1 o2 acc' ∧ acc' ++ o2.drop d' = o1.merge o2 le2)
            case atStart => exact ⟨d, acc', hd, HA'.out, by omega, rfl, rfl, HM'.out, G1.out⟩
            case round =>
              clear HM' HG' HA' HOW' G1 hlo'
              obtain ⟨d', acc2, hd', hacc2, hg2', rfl, rfl, hM2, hG2⟩ := hrel
              have HM2 := (show Hid _ from hM2)
              have HG2 := (show Hid _ from hG2)
              have HA2 := (show Hid _ from hacc2)
              have HOW2 : Hid (wr.ownsRow w2.heap.size 37 2 (.slice (some ⟨w2.heap.size, 0, none⟩) (a' + d') n) (a' + d') (flat acc2)) := by rw [← hacc2]; exact hM2.own
              have hwr2 := hM2.bel.size
              have hlo2 := (Own.lt hM2.own).2
              clear hM2 hG2 hacc2
              by_cases hd2 : d' < n - n / 2
              · have hd3 : d' < o2.length := by have := HL2.out; omega
                have y1 := (HM2.out.p2 d' hd3).1
                have y2 := (HM2.out.p2 d' hd3).2
                simp only [Nat.zero_add] at y1 y2
                obtain ⟨rx, erx⟩ : ∃ q, q = o2[d'] := ⟨_, rfl⟩
                rw [← erx] at y1 y2
                obtain ⟨r1, r2⟩ := rx
                simp only at y1 y2
                have ER := (show Hid _ from erx)
                clear erx
                go_wp2_with (at_builtin; refine wpList_append_fits _ rfl _ _ 34 rfl w2.heap.size 37 i0 2 Try.underlying34 hi hz1 w2.heap.size (a' + d') n (flat acc2) rfl (by exact World.ownsRow.alloc HOW2.out _) ⟨wr.heap.size, 0, none⟩ 1 1 [.int .u64 r1, .int .i64 r2] rfl rfl (by exact new_pair wr r1 r2) (pair_oneCell _ _) (by omega) ?_; intro w5 hown5 hgrow5)
                go_roundg (gk - 1)
                case measure => omega
                case rel =>
                  refine ⟨d' + 1, acc2 ++ [(r1, r2)], by omega, by rw [List.length_append, HA2.out]; simp; omega, by omega, by go_num, by rw [Nat.add_assoc], ?_, ?_⟩
                  · exact HM2.out.grow hg1 hg2 (Nat.le_refl _) ((Below.refl _ _).alloc (by omega) _) hgrow5 (by rw [HA2.out]; exact hown5)
                  · have := HG2.out
                    rw [List.drop_eq_getElem_cons hd3, ← ER.out] at this
                    rw [← this]; simp
              · go_wp2_with fail
                go_ret
                exact sort_fin (by omega) (by omega) (by omega) HS1.out HS2.out HL2.out HA2.out HG2.out HM2.out HW1.out HW2.out (by omega)

end Go.Proofs.Qxb6602356a
