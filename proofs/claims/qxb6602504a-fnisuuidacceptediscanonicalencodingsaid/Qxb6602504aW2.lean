import Derived.Test.Qxb6602504aW1
import Derived.Deep.LoopGhost
import Derived.Laws.BytesString
import Derived.Laws.CopyRow
namespace Go.Proofs.Qxb6602504a
open Go.RowKit Ux
set_option linter.unusedVariables false

theorem info5 : (Try.prog.info? 5).map (fun i => (i.zero, i.size, i.bytes)) = some (some (.int .u8 0), 1, 1) := by kernel_rfl

/-- The sixteen bytes as cells. -/
def arr16 (x : Nat → Int) : Array Value := ((List.range 16).map fun j => Value.int .u8 (x j)).toArray
theorem arr16_size (x : Nat → Int) : (arr16 x).size = 16 := by simp [arr16]
theorem arr16_get (x : Nat → Int) {j : Nat} (h : j < 16) : (arr16 x)[j]? = some (.int .u8 (x j)) := by simp [arr16, h]

theorem new_one (w : World) (a : Int) : ∀ (j : Nat) (u : Value), [Value.int .u8 a][j]? = some u → (w.alloc (.cells #[.int .u8 a] 5)).cell? ((⟨w.heap.size, 0, none⟩ : Addr).add j) = some u := by
  intro j u hu
  match j, hu with
  | 0, hu => simp at hu; subst hu; simp [Addr.add]
theorem one_cell (a : Int) : ∀ u ∈ [Value.int .u8 a], u.oneCell' = true := by
  intro u hu
  simp at hu
  subst hu
  rfl

/-- What the loop of zzFormatUUID knows of the world. -/
structure Fm (w ww : World) (x : Nat → Int) (l : List Int) : Prop where
  own : ww.ownsRow (w.heap.size + 1) 5 1 (.slice (some ⟨w.heap.size + 1, 0, none⟩) l.length 36) l.length (l.map (Value.int .u8))
  box : ∀ j, j < 16 → ww.cell? ⟨w.heap.size, j, none⟩ = some (.int .u8 (x j))
  bel : Below w.heap.size w ww
theorem Fm.lt {w ww : World} {x : Nat → Int} {l : List Int} (F : Fm w ww x l) : w.heap.size + 1 < ww.heap.size := (World.ownsRow.lt F.own _ rfl).2
theorem Fm.grow {w ww w2 : World} {x : Nat → Int} {l : List Int} {c : Int} (F : Fm w ww x l) (hg : (ww.alloc (.cells #[.int .u8 c] 5)).grownBy w2 (some (w.heap.size + 1)))
    (ho : w2.ownsRow (w.heap.size + 1) 5 1 (.slice (some ⟨w.heap.size + 1, 0, none⟩) (l.length + 1) 36) (l.length + 1) (l.map (Value.int .u8) ++ [.int .u8 c])) : Fm w w2 x (l ++ [c]) := by
  have hl := F.lt
  have B1 : Below w.heap.size w (ww.alloc (.cells #[.int .u8 c] 5)) := F.bel.alloc (by omega) _
  refine ⟨by simpa using ho, fun j hj => ?_, B1.grown hg (by simp; omega) (fun k e => by cases e; omega)⟩
  refine hg.cell ?_ (by simp)
  rw [World.cell?_alloc_past _ _ _ (by omega)]
  exact F.box j hj
theorem fm_start {w w2 : World} {x : Nat → Int} (ho : w2.ownsRow (w.heap.size + 1) 5 1 (.slice (some ⟨w.heap.size + 1, 0, none⟩) 0 36) 0 []) (hg : (w.alloc (.cells (arr16 x) 26)).grownBy w2 none) : Fm w w2 x [] := by
  refine ⟨ho, fun j hj => hg.cell ?_ (by simp), ((Below.refl _ _).alloc (Nat.le_refl _) _).grown hg (by simp) (fun k e => by cases e)⟩
  rw [World.cell?_alloc_at _ _ _ _ rfl]
  exact arr16_get x hj

theorem fl_next {x : Nat → Int} {k : Nat} {xk : Int} {u v : Nat} (b : Bool) (hb : (k = 4 ∨ k = 6 ∨ k = 8 ∨ k = 10) ↔ b = true) (ex : xk = x k) (eu : xk / 16 = (u : Int)) (ev : xk % 16 = (v : Int)) :
    FL x (k + 1) = (FL x k ++ (if b then [45] else []) ++ [hd u]) ++ [hd v] := by
  have e1 : (x k / 16).toNat = u := by rw [← ex, eu]; simp
  have e2 : (x k % 16).toNat = v := by rw [← ex, ev]; simp
  rw [FL, e1, e2]
  cases b with
  | false => rw [if_neg (fun h => by simpa using hb.1 h)]; simp
  | true => rw [if_pos (hb.2 rfl)]; simp

theorem conv_run {w ww : World} {x : Nat → Int} {l : List Int} (F : Fm w ww x l) : (convert 22 9 (.slice (some ⟨w.heap.size + 1, 0, none⟩) l.length 36)).run Try.prog ww = .ok (.string (mkS l)) ww := by
  rw [run_convert_bytes_string (P := Try.prog) ww 22 9 5 _ _ _ Try.underlying22 Try.underlying5 Try.underlying9]
  refine run_bytesToString ww _ _ _ l ?_
  have h := run_loadCells_list (P := Try.prog) ww ⟨w.heap.size + 1, 0, none⟩ (l.map (Value.int .u8)) (fun j u hu => ?_)
  · simpa using h
  · obtain ⟨h1, h2⟩ := F.own
    rcases h2 with ⟨h2, _⟩ | ⟨g', cap', cur, hv, hb, hh, hn, hm, hs, ht⟩
    · simp at h2
    · simp only [Value.slice.injEq, Option.some.injEq, Addr.mk.injEq, and_true, true_and] at hv
      obtain ⟨rfl, rfl⟩ := hv
      rw [← ht, List.getElem?_take] at hu
      split at hu
      · rw [Addr.add_lit]
        simp only [World.cell?, hh, Nat.zero_add]
        simpa using hu
      · cases hu

set_option maxHeartbeats 2000000 in
theorem fmt_any (x : Nat → Int) (hx : ∀ j, j < 16 → 0 ≤ x j ∧ x j ≤ 255) (w : World) :
    Calls Try.prog 12 #[.agg (arr16 x)] w fun e w' => e = .returned (.string (mkS (FL x 16))) ∧ Below w.heap.size w w' := by
  have HX := (show Hid _ from hx)
  clear hx
  obtain ⟨A, hA, hA2⟩ : ∃ A : Array Value, A = arr16 x ∧ A.size = 16 := ⟨_, rfl, arr16_size x⟩
  rw [← hA]
  have EA := (show Hid _ from hA)
  clear hA
  obtain ⟨i0, hi, hz0, hz1, hz2⟩ := info_parts info5
  go_enter Try.func12, Try.ntmps12
  go_wp2_with (at_make; refine wpList_make_own _ rfl _ _ 22 rfl (w.heap.size + 1) 5 i0 _ 1 Try.underlying22 hi hz0 hz1 .i64 .i64 _ 36 rfl rfl rfl (by rw [hz2]; omega) (by unfold maxLen; omega) (by simp) ?_; intro w2 hown2 hgrow2)
  have F0 : Hid (Fm w w2 x []) := fm_start (by simpa using hown2) (by rw [← EA.out]; exact hgrow2)
  clear hown2 hgrow2 EA hA2
  go_loopg [3, 4] 16 (fun gk' v i ww => ∃ k : Nat, k + gk' = 16 ∧ i = .int .i64 k ∧ v = .slice (some ⟨w.heap.size + 1, 0, none⟩) (FL x k).length 36 ∧ Fm w ww x (FL x k))
  case atStart => exact ⟨0, by omega, rfl, by simp [FL], F0.out⟩
  case round =>
    clear F0
    obtain ⟨k, hk, rfl, rfl, hF⟩ := hrel
    have hlt := hF.lt
    obtain ⟨L, eL⟩ : ∃ L, L = (FL x k).length := ⟨_, rfl⟩
    rw [← eL]
    have EL := (show Hid _ from eL)
    have HF := (show Hid _ from hF)
    clear eL hF
    by_cases hk16 : k < 16
    · have hroom := FL_room (x := x) hk16
      rw [← EL.out] at hroom
      have hxb := HX.out k hk16
      have cb := HF.out.box k hk16
      obtain ⟨xk, exk⟩ : ∃ xk, xk = x k := ⟨_, rfl⟩
      rw [← exk] at hxb cb
      obtain ⟨u, eu⟩ : ∃ u : Nat, xk / 16 = (u : Int) := ⟨(xk / 16).toNat, by omega⟩
      obtain ⟨v, ev⟩ : ∃ v : Nat, xk % 16 = (v : Int) := ⟨(xk % 16).toNat, by omega⟩
      have hu16 : u < 16 := by omega
      have hv16 : v < 16 := by omega
      have hand : bits .and .u8 xk 15 = (v : Int) := by rw [u8_and15 xk hxb.1 (by omega)]; exact ev
      have dg1 := digits_at u hu16
      have dg2 := digits_at v hv16
      have EXK := (show Hid _ from exk)
      have EV := (show Hid _ from ev)
      have EU : Hid (xk / 16 = (u : Int)) := eu
      clear exk ev
      have hown : wr.ownsRow (w.heap.size + 1) 5 1 (.slice (some ⟨w.heap.size + 1, 0, none⟩) L 36) L ((FL x k).map (Value.int .u8)) := by rw [EL.out]; exact HF.out.own
      have HOW := (show Hid _ from hown)
      clear hown
      by_cases hd4 : k = 4 ∨ k = 6 ∨ k = 8 ∨ k = 10
      · rw [if_pos hd4] at hroom
        rcases hd4 with rfl | rfl | rfl | rfl
        · go_wp2_with (first
            | (at_builtin; refine wpList_append_fits _ rfl (.tmp 24) (.tmp 25) 22 rfl (w.heap.size + 1) 5 i0 1 Try.underlying22 hi hz1 (w.heap.size + 1) L 36 ((FL x 4).map (Value.int .u8)) rfl (by exact World.ownsRow.alloc HOW.out _) ⟨wr.heap.size, 0, none⟩ 1 1 [.int .u8 45] rfl rfl (by exact new_one wr 45) (one_cell _) (by omega) ?_; intro w1 hownw1 hgroww1; have HF1 : Hid (Fm w w1 x ((FL x 4) ++ [45])) := Fm.grow HF.out hgroww1 (by rw [← EL.out]; exact hownw1); have cbw1 : w1.cell? ⟨w.heap.size, 4, none⟩ = some (.int .u8 xk) := (HF1.out.box 4 hk16).trans (by rw [EXK.out]); have ltw1 := HF1.out.lt; have HOW1 : Hid (w1.ownsRow (w.heap.size + 1) 5 1 (.slice (some ⟨w.heap.size + 1, 0, none⟩) (L + 1) 36) (L + 1) (((FL x 4) ++ [45]).map (Value.int .u8))) := (by show World.ownsRow _ _ _ _ _ _ _; rw [List.map_append]; exact hownw1); clear hownw1 hgroww1)
            | (at_builtin; refine wpList_append_fits _ rfl (.tmp 27) (.tmp 33) 22 rfl (w.heap.size + 1) 5 i0 1 Try.underlying22 hi hz1 (w.heap.size + 1) (L + 1) 36 (((FL x 4) ++ [45]).map (Value.int .u8)) rfl (by exact World.ownsRow.alloc HOW1.out _) ⟨w1.heap.size, 0, none⟩ 1 1 [.int .u8 (hd u)] rfl rfl (by exact new_one w1 (hd u)) (one_cell _) (by omega) ?_; intro w3 hownw3 hgroww3; have HF3 : Hid (Fm w w3 x (((FL x 4) ++ [45]) ++ [(hd u)])) := Fm.grow HF1.out hgroww3 (by rw [List.length_append, ← EL.out, List.length_singleton]; exact hownw3); have cbw3 : w3.cell? ⟨w.heap.size, 4, none⟩ = some (.int .u8 xk) := (HF3.out.box 4 hk16).trans (by rw [EXK.out]); have ltw3 := HF3.out.lt; have HOW3 : Hid (w3.ownsRow (w.heap.size + 1) 5 1 (.slice (some ⟨w.heap.size + 1, 0, none⟩) ((L + 1) + 1) 36) ((L + 1) + 1) ((((FL x 4) ++ [45]) ++ [(hd u)]).map (Value.int .u8))) := (by show World.ownsRow _ _ _ _ _ _ _; rw [List.map_append]; exact hownw3); clear hownw3 hgroww3)
            | (at_builtin; refine wpList_append_fits _ rfl (.tmp 35) (.tmp 41) 22 rfl (w.heap.size + 1) 5 i0 1 Try.underlying22 hi hz1 (w.heap.size + 1) ((L + 1) + 1) 36 ((((FL x 4) ++ [45]) ++ [hd u]).map (Value.int .u8)) rfl (by exact World.ownsRow.alloc HOW3.out _) ⟨w3.heap.size, 0, none⟩ 1 1 [.int .u8 (hd v)] rfl rfl (by exact new_one w3 (hd v)) (one_cell _) (by omega) ?_; intro w5 hownw5 hgroww5)
          )
          go_roundg (gk - 1)
          case measure => omega
          case rel =>
            have HF5 := Fm.grow HF3.out hgroww5 (by simp only [List.length_append, List.length_singleton, ← EL.out]; exact hownw5)
            have e1 : FL x (4 + 1) = (((FL x 4) ++ [45]) ++ [hd u]) ++ [hd v] := fl_next true (by simp) EXK.out EU.out EV.out
            refine ⟨4 + 1, by omega, by go_num, ?_, by rw [e1]; exact HF5⟩
            rw [e1]
            simp only [List.length_append, List.length_singleton, ← EL.out]
        · go_wp2_with (first
            | (at_builtin; refine wpList_append_fits _ rfl (.tmp 24) (.tmp 25) 22 rfl (w.heap.size + 1) 5 i0 1 Try.underlying22 hi hz1 (w.heap.size + 1) L 36 ((FL x 6).map (Value.int .u8)) rfl (by exact World.ownsRow.alloc HOW.out _) ⟨wr.heap.size, 0, none⟩ 1 1 [.int .u8 45] rfl rfl (by exact new_one wr 45) (one_cell _) (by omega) ?_; intro w1 hownw1 hgroww1; have HF1 : Hid (Fm w w1 x ((FL x 6) ++ [45])) := Fm.grow HF.out hgroww1 (by rw [← EL.out]; exact hownw1); have cbw1 : w1.cell? ⟨w.heap.size, 6, none⟩ = some (.int .u8 xk) := (HF1.out.box 6 hk16).trans (by rw [EXK.out]); have ltw1 := HF1.out.lt; have HOW1 : Hid (w1.ownsRow (w.heap.size + 1) 5 1 (.slice (some ⟨w.heap.size + 1, 0, none⟩) (L + 1) 36) (L + 1) (((FL x 6) ++ [45]).map (Value.int .u8))) := (by show World.ownsRow _ _ _ _ _ _ _; rw [List.map_append]; exact hownw1); clear hownw1 hgroww1)
            | (at_builtin; refine wpList_append_fits _ rfl (.tmp 27) (.tmp 33) 22 rfl (w.heap.size + 1) 5 i0 1 Try.underlying22 hi hz1 (w.heap.size + 1) (L + 1) 36 (((FL x 6) ++ [45]).map (Value.int .u8)) rfl (by exact World.ownsRow.alloc HOW1.out _) ⟨w1.heap.size, 0, none⟩ 1 1 [.int .u8 (hd u)] rfl rfl (by exact new_one w1 (hd u)) (one_cell _) (by omega) ?_; intro w3 hownw3 hgroww3; have HF3 : Hid (Fm w w3 x (((FL x 6) ++ [45]) ++ [(hd u)])) := Fm.grow HF1.out hgroww3 (by rw [List.length_append, ← EL.out, List.length_singleton]; exact hownw3); have cbw3 : w3.cell? ⟨w.heap.size, 6, none⟩ = some (.int .u8 xk) := (HF3.out.box 6 hk16).trans (by rw [EXK.out]); have ltw3 := HF3.out.lt; have HOW3 : Hid (w3.ownsRow (w.heap.size + 1) 5 1 (.slice (some ⟨w.heap.size + 1, 0, none⟩) ((L + 1) + 1) 36) ((L + 1) + 1) ((((FL x 6) ++ [45]) ++ [(hd u)]).map (Value.int .u8))) := (by show World.ownsRow _ _ _ _ _ _ _; rw [List.map_append]; exact hownw3); clear hownw3 hgroww3)
            | (at_builtin; refine wpList_append_fits _ rfl (.tmp 35) (.tmp 41) 22 rfl (w.heap.size + 1) 5 i0 1 Try.underlying22 hi hz1 (w.heap.size + 1) ((L + 1) + 1) 36 ((((FL x 6) ++ [45]) ++ [hd u]).map (Value.int .u8)) rfl (by exact World.ownsRow.alloc HOW3.out _) ⟨w3.heap.size, 0, none⟩ 1 1 [.int .u8 (hd v)] rfl rfl (by exact new_one w3 (hd v)) (one_cell _) (by omega) ?_; intro w5 hownw5 hgroww5)
          )
          go_roundg (gk - 1)
          case measure => omega
          case rel =>
            have HF5 := Fm.grow HF3.out hgroww5 (by simp only [List.length_append, List.length_singleton, ← EL.out]; exact hownw5)
            have e1 : FL x (6 + 1) = (((FL x 6) ++ [45]) ++ [hd u]) ++ [hd v] := fl_next true (by simp) EXK.out EU.out EV.out
            refine ⟨6 + 1, by omega, by go_num, ?_, by rw [e1]; exact HF5⟩
            rw [e1]
            simp only [List.length_append, List.length_singleton, ← EL.out]
        · go_wp2_with (first
            | (at_builtin; refine wpList_append_fits _ rfl (.tmp 24) (.tmp 25) 22 rfl (w.heap.size + 1) 5 i0 1 Try.underlying22 hi hz1 (w.heap.size + 1) L 36 ((FL x 8).map (Value.int .u8)) rfl (by exact World.ownsRow.alloc HOW.out _) ⟨wr.heap.size, 0, none⟩ 1 1 [.int .u8 45] rfl rfl (by exact new_one wr 45) (one_cell _) (by omega) ?_; intro w1 hownw1 hgroww1; have HF1 : Hid (Fm w w1 x ((FL x 8) ++ [45])) := Fm.grow HF.out hgroww1 (by rw [← EL.out]; exact hownw1); have cbw1 : w1.cell? ⟨w.heap.size, 8, none⟩ = some (.int .u8 xk) := (HF1.out.box 8 hk16).trans (by rw [EXK.out]); have ltw1 := HF1.out.lt; have HOW1 : Hid (w1.ownsRow (w.heap.size + 1) 5 1 (.slice (some ⟨w.heap.size + 1, 0, none⟩) (L + 1) 36) (L + 1) (((FL x 8) ++ [45]).map (Value.int .u8))) := (by show World.ownsRow _ _ _ _ _ _ _; rw [List.map_append]; exact hownw1); clear hownw1 hgroww1)
            | (at_builtin; refine wpList_append_fits _ rfl (.tmp 27) (.tmp 33) 22 rfl (w.heap.size + 1) 5 i0 1 Try.underlying22 hi hz1 (w.heap.size + 1) (L + 1) 36 (((FL x 8) ++ [45]).map (Value.int .u8)) rfl (by exact World.ownsRow.alloc HOW1.out _) ⟨w1.heap.size, 0, none⟩ 1 1 [.int .u8 (hd u)] rfl rfl (by exact new_one w1 (hd u)) (one_cell _) (by omega) ?_; intro w3 hownw3 hgroww3; have HF3 : Hid (Fm w w3 x (((FL x 8) ++ [45]) ++ [(hd u)])) := Fm.grow HF1.out hgroww3 (by rw [List.length_append, ← EL.out, List.length_singleton]; exact hownw3); have cbw3 : w3.cell? ⟨w.heap.size, 8, none⟩ = some (.int .u8 xk) := (HF3.out.box 8 hk16).trans (by rw [EXK.out]); have ltw3 := HF3.out.lt; have HOW3 : Hid (w3.ownsRow (w.heap.size + 1) 5 1 (.slice (some ⟨w.heap.size + 1, 0, none⟩) ((L + 1) + 1) 36) ((L + 1) + 1) ((((FL x 8) ++ [45]) ++ [(hd u)]).map (Value.int .u8))) := (by show World.ownsRow _ _ _ _ _ _ _; rw [List.map_append]; exact hownw3); clear hownw3 hgroww3)
            | (at_builtin; refine wpList_append_fits _ rfl (.tmp 35) (.tmp 41) 22 rfl (w.heap.size + 1) 5 i0 1 Try.underlying22 hi hz1 (w.heap.size + 1) ((L + 1) + 1) 36 ((((FL x 8) ++ [45]) ++ [hd u]).map (Value.int .u8)) rfl (by exact World.ownsRow.alloc HOW3.out _) ⟨w3.heap.size, 0, none⟩ 1 1 [.int .u8 (hd v)] rfl rfl (by exact new_one w3 (hd v)) (one_cell _) (by omega) ?_; intro w5 hownw5 hgroww5)
          )
          go_roundg (gk - 1)
          case measure => omega
          case rel =>
            have HF5 := Fm.grow HF3.out hgroww5 (by simp only [List.length_append, List.length_singleton, ← EL.out]; exact hownw5)
            have e1 : FL x (8 + 1) = (((FL x 8) ++ [45]) ++ [hd u]) ++ [hd v] := fl_next true (by simp) EXK.out EU.out EV.out
            refine ⟨8 + 1, by omega, by go_num, ?_, by rw [e1]; exact HF5⟩
            rw [e1]
            simp only [List.length_append, List.length_singleton, ← EL.out]
        · go_wp2_with (first
            | (at_builtin; refine wpList_append_fits _ rfl (.tmp 24) (.tmp 25) 22 rfl (w.heap.size + 1) 5 i0 1 Try.underlying22 hi hz1 (w.heap.size + 1) L 36 ((FL x 10).map (Value.int .u8)) rfl (by exact World.ownsRow.alloc HOW.out _) ⟨wr.heap.size, 0, none⟩ 1 1 [.int .u8 45] rfl rfl (by exact new_one wr 45) (one_cell _) (by omega) ?_; intro w1 hownw1 hgroww1; have HF1 : Hid (Fm w w1 x ((FL x 10) ++ [45])) := Fm.grow HF.out hgroww1 (by rw [← EL.out]; exact hownw1); have cbw1 : w1.cell? ⟨w.heap.size, 10, none⟩ = some (.int .u8 xk) := (HF1.out.box 10 hk16).trans (by rw [EXK.out]); have ltw1 := HF1.out.lt; have HOW1 : Hid (w1.ownsRow (w.heap.size + 1) 5 1 (.slice (some ⟨w.heap.size + 1, 0, none⟩) (L + 1) 36) (L + 1) (((FL x 10) ++ [45]).map (Value.int .u8))) := (by show World.ownsRow _ _ _ _ _ _ _; rw [List.map_append]; exact hownw1); clear hownw1 hgroww1)
            | (at_builtin; refine wpList_append_fits _ rfl (.tmp 27) (.tmp 33) 22 rfl (w.heap.size + 1) 5 i0 1 Try.underlying22 hi hz1 (w.heap.size + 1) (L + 1) 36 (((FL x 10) ++ [45]).map (Value.int .u8)) rfl (by exact World.ownsRow.alloc HOW1.out _) ⟨w1.heap.size, 0, none⟩ 1 1 [.int .u8 (hd u)] rfl rfl (by exact new_one w1 (hd u)) (one_cell _) (by omega) ?_; intro w3 hownw3 hgroww3; have HF3 : Hid (Fm w w3 x (((FL x 10) ++ [45]) ++ [(hd u)])) := Fm.grow HF1.out hgroww3 (by rw [List.length_append, ← EL.out, List.length_singleton]; exact hownw3); have cbw3 : w3.cell? ⟨w.heap.size, 10, none⟩ = some (.int .u8 xk) := (HF3.out.box 10 hk16).trans (by rw [EXK.out]); have ltw3 := HF3.out.lt; have HOW3 : Hid (w3.ownsRow (w.heap.size + 1) 5 1 (.slice (some ⟨w.heap.size + 1, 0, none⟩) ((L + 1) + 1) 36) ((L + 1) + 1) ((((FL x 10) ++ [45]) ++ [(hd u)]).map (Value.int .u8))) := (by show World.ownsRow _ _ _ _ _ _ _; rw [List.map_append]; exact hownw3); clear hownw3 hgroww3)
            | (at_builtin; refine wpList_append_fits _ rfl (.tmp 35) (.tmp 41) 22 rfl (w.heap.size + 1) 5 i0 1 Try.underlying22 hi hz1 (w.heap.size + 1) ((L + 1) + 1) 36 ((((FL x 10) ++ [45]) ++ [hd u]).map (Value.int .u8)) rfl (by exact World.ownsRow.alloc HOW3.out _) ⟨w3.heap.size, 0, none⟩ 1 1 [.int .u8 (hd v)] rfl rfl (by exact new_one w3 (hd v)) (one_cell _) (by omega) ?_; intro w5 hownw5 hgroww5)
          )
          go_roundg (gk - 1)
          case measure => omega
          case rel =>
            have HF5 := Fm.grow HF3.out hgroww5 (by simp only [List.length_append, List.length_singleton, ← EL.out]; exact hownw5)
            have e1 : FL x (10 + 1) = (((FL x 10) ++ [45]) ++ [hd u]) ++ [hd v] := fl_next true (by simp) EXK.out EU.out EV.out
            refine ⟨10 + 1, by omega, by go_num, ?_, by rw [e1]; exact HF5⟩
            rw [e1]
            simp only [List.length_append, List.length_singleton, ← EL.out]
      · rw [if_neg hd4] at hroom
        have b4 : ((k : Int) == 4) = false := by simp; omega
        have b6 : ((k : Int) == 6) = false := by simp; omega
        have b8 : ((k : Int) == 8) = false := by simp; omega
        have b10 : ((k : Int) == 10) = false := by simp; omega
        have HD4 := (show Hid _ from hd4)
        clear hd4
        go_wp2_with (first
          | (at_builtin; refine wpList_append_fits _ rfl (.tmp 27) (.tmp 33) 22 rfl (w.heap.size + 1) 5 i0 1 Try.underlying22 hi hz1 (w.heap.size + 1) L 36 ((FL x k).map (Value.int .u8)) rfl (by exact World.ownsRow.alloc HOW.out _) ⟨wr.heap.size, 0, none⟩ 1 1 [.int .u8 (hd u)] rfl rfl (by exact new_one wr (hd u)) (one_cell _) (by omega) ?_; intro w3 hownw3 hgroww3; have HF3 : Hid (Fm w w3 x ((FL x k) ++ [(hd u)])) := Fm.grow HF.out hgroww3 (by rw [← EL.out]; exact hownw3); have cbw3 : w3.cell? ⟨w.heap.size, k, none⟩ = some (.int .u8 xk) := (HF3.out.box k hk16).trans (by rw [EXK.out]); have ltw3 := HF3.out.lt; have HOW3 : Hid (w3.ownsRow (w.heap.size + 1) 5 1 (.slice (some ⟨w.heap.size + 1, 0, none⟩) (L + 1) 36) (L + 1) (((FL x k) ++ [(hd u)]).map (Value.int .u8))) := (by show World.ownsRow _ _ _ _ _ _ _; rw [List.map_append]; exact hownw3); clear hownw3 hgroww3)
          | (at_builtin; refine wpList_append_fits _ rfl (.tmp 35) (.tmp 41) 22 rfl (w.heap.size + 1) 5 i0 1 Try.underlying22 hi hz1 (w.heap.size + 1) (L + 1) 36 (((FL x k) ++ [hd u]).map (Value.int .u8)) rfl (by exact World.ownsRow.alloc HOW3.out _) ⟨w3.heap.size, 0, none⟩ 1 1 [.int .u8 (hd v)] rfl rfl (by exact new_one w3 (hd v)) (one_cell _) (by omega) ?_; intro w5 hownw5 hgroww5)
        )
        go_roundg (gk - 1)
        case measure => omega
        case rel =>
          have HF5 := Fm.grow HF3.out hgroww5 (by simp only [List.length_append, List.length_singleton, ← EL.out]; exact hownw5)
          have e1 : FL x (k + 1) = ((FL x k) ++ [hd u]) ++ [hd v] := by simpa using fl_next false (by simpa using HD4.out) EXK.out EU.out EV.out
          refine ⟨k + 1, by omega, by go_num, ?_, by rw [e1]; exact HF5⟩
          rw [e1]
          simp only [List.length_append, List.length_singleton, ← EL.out]
    · obtain rfl : k = 16 := by omega
      have hcv : (convert 22 9 (.slice (some ⟨w.heap.size + 1, 0, none⟩) L 36)).run Try.prog wr = .ok (.string (mkS (FL x 16))) wr := by rw [EL.out]; exact conv_run HF.out
      go_wp2_with fail
      go_ret
      exact ⟨rfl, HF.out.bel⟩
end Go.Proofs.Qxb6602504a
