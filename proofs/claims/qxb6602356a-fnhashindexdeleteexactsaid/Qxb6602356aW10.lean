import Derived.Test.Qxb6602356aW9
import Derived.Laws.CopyOwn
namespace Go.Proofs.Qxb6602356a
open Go.RowKit Hx
set_option linter.unusedVariables false

theorem size24 : (Try.prog.info? 24).map (·.size) = some 1 := by kernel_rfl
theorem size3 : (Try.prog.info? 3).map (·.size) = some 1 := by kernel_rfl

/-- The numbers f 0 .. f (n-1) as cells. -/
def cellsL (k : IntKind) (n : Nat) (f : Nat → Int) : List Value := (List.range n).map fun j => .int k (f j)
theorem cellsL_length (k : IntKind) (n : Nat) (f : Nat → Int) : (cellsL k n f).length = n := by simp [cellsL]
theorem cellsL_get {k : IntKind} {n : Nat} {f : Nat → Int} {j : Nat} (hj : j < n) : (cellsL k n f)[j]? = some (.int k (f j)) := by simp [cellsL, hj]
theorem cellsL_one (k : IntKind) (n : Nat) (f : Nat → Int) : ∀ u ∈ cellsL k n f, u.oneCell' = true := by
  intro u hu
  obtain ⟨j, _, rfl⟩ := List.mem_map.1 hu
  rfl
theorem cellsL_src {w : World} {k : IntKind} {n b off : Nat} {f : Nat → Int} (h : ∀ j, j < n → w.cell? ⟨b, off + j, none⟩ = some (.int k (f j))) : ∀ j u, (cellsL k n f)[j]? = some u → w.cell? ((⟨b, off, none⟩ : Addr).add j) = some u := by
  intro j u hu
  have hj : j < n := by have := (List.getElem?_eq_some_iff.1 hu).1; rwa [cellsL_length] at this
  rw [cellsL_get hj] at hu
  cases hu
  rw [Addr.add_lit]
  exact h j hj

/-- The made row, copied over. -/
theorem copied {w : World} {C : Array Value} {e : TypeId} {k : IntKind} {n : Nat} {f : Nat → Int} (hC : C.size = n) :
    Row ((w.alloc (.cells C e)).setRow w.heap.size (C.toList.take 0 ++ (cellsL k n f ++ C.toList.drop (0 + (cellsL k n f).length))).toArray) w.heap.size k n f ∧
    Below w.heap.size w ((w.alloc (.cells C e)).setRow w.heap.size (C.toList.take 0 ++ (cellsL k n f ++ C.toList.drop (0 + (cellsL k n f).length))).toArray) ∧
    ((w.alloc (.cells C e)).setRow w.heap.size (C.toList.take 0 ++ (cellsL k n f ++ C.toList.drop (0 + (cellsL k n f).length))).toArray).heap.size = w.heap.size + 1 := by
  have hg := heap_alloc_new w (.cells C e)
  have hl := cellsL_length k n f
  have e1 : (C.toList.take 0 ++ (cellsL k n f ++ C.toList.drop (0 + (cellsL k n f).length))).toArray = (cellsL k n f).toArray := by
    rw [List.take_zero, List.nil_append, List.drop_eq_nil_of_le (by rw [Array.length_toList]; omega), List.append_nil]
  rw [e1]
  refine ⟨⟨fun j hj => ?_, fun o => ?_⟩, below_setRow ((Below.refl _ _).alloc (Nat.le_refl _) _) (Nat.le_refl _) _, by simp⟩
  · rw [cell_setRow_same _ _ _ _ _ _ _ hg]
    have := cellsL_get (k := k) (f := f) hj
    simpa using this
  · unfold World.frozen?
    rw [setRow_heap _ _ _ _ _ _ hg]
    simp

theorem copy_run {t e : TypeId} {k : IntKind} (w : World) (C : Array Value) (n b off c : Nat) (f : Nat → Int) (ht : Try.prog.underlying t = some (.slice e)) (hs : (Try.prog.info? e).map (·.size) = some 1) (hC : C.size = n) (hb : b < w.heap.size)
    (hsrc : ∀ j, j < n → w.cell? ⟨b, off + j, none⟩ = some (.int k (f j))) :
    ∃ v wA, (Builtin.copy_ #[t, t] 3 #[.slice (some ⟨w.heap.size, 0, none⟩) n n, .slice (some ⟨b, off, none⟩) n c]).run Try.prog (w.alloc (.cells C e)) = .ok v wA ∧ Row wA w.heap.size k n f ∧ Below w.heap.size w wA ∧ wA.heap.size = w.heap.size + 1 := by
  have hrun := run_copy_row (P := Try.prog) (w.alloc (.cells C e)) t t 3 e w.heap.size 0 n n ⟨b, off, none⟩ n c C e (cellsL k n f) ht hs (heap_alloc_new w _) (by rw [cellsL_length]; exact (Nat.min_self n).symm) (cellsL_src fun j hj => by rw [World.cell?_alloc_past _ _ _ hb]; exact hsrc j hj) (by rw [cellsL_length, hC]; omega) (cellsL_one _ _ _)
  exact ⟨_, _, hrun, (copied hC).1, (copied hC).2.1, (copied hC).2.2⟩

theorem make_ones' {t e : TypeId} {z : Value} {bytes : Nat} (ht : Try.prog.underlying t = some (.slice e)) (hi : (Try.prog.info? e).map (fun i => (i.zero, i.size, i.bytes)) = some (some z, 1, bytes)) (hz1 : z.cells = #[z]) (hbb : bytes ≤ 8) (n : Nat) (hn : n ≤ 65536) :
    ∃ C : Array Value, C.size = n ∧ (∀ j, j < n → C[j]? = some z) ∧
      ∀ w, (Instr.makeSlice t (.int .i64 (n : Int)) (.int .i64 (n : Int))).run Try.prog w = .ok (.slice (some ⟨w.heap.size, 0, none⟩) n n) (w.alloc (.cells C e)) := by
  obtain ⟨i, hi', hz, hs, hb⟩ := info_parts hi
  refine ⟨madeCells #[z] n, size_madeCells _ _, fun j hj => made_one _ n j hj, fun w => ?_⟩
  have hr := run_make (P := Try.prog) w t e i _ ht hi' hz .i64 .i64 n n (by omega) (by omega) (by
    rw [hb]
    have : (bytes : Int) * (n : Int) ≤ 8 * 65536 := Int.mul_le_mul (by omega) (by omega) (by omega) (by omega)
    omega) (by omega)
  simpa [hs, hz1] using hr

theorem Row.below {w w' : World} {b : Nat} {k : IntKind} {n : Nat} {f : Nat → Int} (R : Row w b k n f) (hb : b < w.heap.size) (hw : Below w.heap.size w w') : Row w' b k n f :=
  ⟨fun j hj => (hw.cell (p := ⟨b, j, none⟩) hb).trans (R.cell j hj), fun o => (hw.frozen (p := ⟨b, o, none⟩) hb).trans (R.free o)⟩
theorem Row.only {S : Nat → Prop} {w w' : World} {b : Nat} {k : IntKind} {n : Nat} {f : Nat → Int} (R : Row w b k n f) (hb : b < w.heap.size) (hw : Only S w w') (hn : ¬ S b) : Row w' b k n f :=
  ⟨fun j hj => hw.cell (R.cell j hj) hn, fun o => (hw.frozen (a := ⟨b, o, none⟩) hb hn).trans (R.free o)⟩

/-- What the walk of Delete asks, out of a valid table that holds the item. -/
theorem prep {n : Nat} {h p : Nat → Int} {count hh pp : Int} {i0 : Nat} (V : Valid n h p count) (hn2 : n ≤ 65536) (hi0 : i0 < n) (e1 : h i0 = hh) (e2 : p i0 = pp) (hz : hh ≠ 0) :
    ∃ E D, E < n ∧ h E = 0 ∧ LInv n E h ∧ Seek n (hom n hh) D h p hh pp 0 ∧ 1 ≤ count ∧ count ≤ 65536 := by
  obtain ⟨E, hE, hEz⟩ := V.emp
  have hg := hom_lt (n := n) (by omega) hh
  have hD := dst_lt (n := n) hg hi0
  have hoc : 1 ≤ occN h n := by
    rw [← itemsUpto_length h p]
    refine List.length_pos_of_mem (a := (hh, pp)) (List.mem_filter.2 ⟨List.mem_map.2 ⟨i0, List.mem_range.2 hi0, by rw [e1, e2]⟩, by simpa using hz⟩)
  have hol := occN_le h n
  have hc := V.cnt
  refine ⟨E, dst n (hom n hh) i0, hE, hEz, (cinv_linv hE hEz).1 V.inv, ⟨Nat.zero_le _, hD, by rw [adv_dst hg hi0]; exact e1, by rw [adv_dst hg hi0]; exact e2, fun x hx => ?_⟩, by omega, by omega⟩
  have hxn : x < n := by omega
  refine V.inv i0 hi0 (by rw [e1]; exact hz) _ (adv_lt hg (by omega)) ?_
  rw [e1, dst_adv hg hxn]
  exact hx

/-- Where the four rows lie behind the deletion. -/
structure Sit (w ww : World) (n : Nat) (h p h' p' : Nat → Int) (S0 : Nat) : Prop where
  r1 : Row ww w.heap.size .u64 n h
  r2 : Row ww (w.heap.size + 1) .i64 n p
  r3 : Row ww S0 .u64 n h'
  r4 : Row ww (S0 + 1) .i64 n p'
  bel : Below w.heap.size w ww
  lo : w.heap.size + 2 ≤ S0
  up : S0 + 1 < ww.heap.size

theorem sit_mk {w wc w3 w4 w5 : World} {n cap S0 : Nat} {h p h' p' : Nat → Int} {count tch : Int} (R1 : Row wc w.heap.size .u64 n h) (R2 : Row wc (w.heap.size + 1) .i64 n p) (W2 : Below w.heap.size w wc) (S2 : wc.heap.size = w.heap.size + 2)
    (B3 : Below wc.heap.size wc w3) (O4 : Only (fun k => k = wc.heap.size + 1 ∨ k = wc.heap.size) w3 w4) (T3 : Tab w3 wc.heap.size (wc.heap.size + 1) n cap h p count tch) (eS : S0 = w4.heap.size)
    (r3 : Row w5 S0 .u64 n h') (r4 : Row w5 (S0 + 1) .i64 n p') (B5 : Below S0 w4 w5) (z5 : S0 + 1 < w5.heap.size) : Sit w w5 n h p h' p' S0 := by
  have s3 := B3.size
  have s4 := O4.size
  have B4 : Below wc.heap.size w3 w4 := O4.below (fun k hk => by omega) s3
  have B35 : Below wc.heap.size wc w5 := (B3.trans B4).trans (B5.mono (by omega))
  exact ⟨R1.below (by omega) B35, R2.below (by omega) B35, r3, r4, W2.trans (B35.mono (by omega)), by omega, z5⟩

/-- A row of Bools. -/
structure BRow (w : World) (b n : Nat) (f : Nat → Bool) : Prop where
  cell : ∀ j, j < n → w.cell? ⟨b, j, none⟩ = some (.bool (f j))
  free : ∀ o, w.frozen? ⟨b, o, none⟩ = false

theorem Sit.alloc {w ww : World} {n : Nat} {h p h' p' : Nat → Int} {S0 : Nat} (S : Sit w ww n h p h' p' S0) (o : Obj) : Sit w (ww.alloc o) n h p h' p' S0 := by
  have lo := S.lo
  have up := S.up
  have B : Below ww.heap.size ww (ww.alloc o) := (Below.refl _ _).alloc (Nat.le_refl _) _
  exact ⟨S.r1.below (by omega) B, S.r2.below (by omega) B, S.r3.below (by omega) B, S.r4.below (by omega) B, S.bel.trans (B.mono (by omega)), lo, by simp; omega⟩
theorem Sit.set {w ww : World} {n : Nat} {h p h' p' : Nat → Int} {S0 : Nat} (S : Sit w ww n h p h' p' S0) {b o : Nat} {u : Value} (hb : S0 + 1 < b) : Sit w (ww.setCell ⟨b, o, none⟩ u) n h p h' p' S0 := by
  have lo := S.lo
  have up := S.up
  exact ⟨S.r1.other (by omega) u, S.r2.other (by omega) u, S.r3.other (by omega) u, S.r4.other (by omega) u, S.bel.setCell (by show _ ≤ b; omega) u, lo, by simpa [World.setCell] using up⟩
theorem bool_start {w ww : World} {n g : Nat} {h p h' p' : Nat → Int} {S0 : Nat} (S : Sit w ww n h p h' p' S0) {C : Array Value} (hC : ∀ j, j < n → C[j]? = some (.bool false)) :
    Sit w (ww.alloc (.cells C 4)) n h p h' p' S0 ∧ BRow (ww.alloc (.cells C 4)) ww.heap.size n (fun x => decide (dst n g x < 0)) := by
  refine ⟨S.alloc _, ⟨fun j hj => ?_, fun o => by go_simp⟩⟩
  rw [World.cell?_alloc_at _ _ _ _ rfl, hC j hj]
  simp
theorem brow_next {ww : World} {b n g k sl : Nat} (R : BRow ww b n (fun x => decide (dst n g x < k))) (hsl : sl < n) (hg : g < n) (esl : sl = adv n g k) (hk : k < n) :
    BRow (ww.setCell ⟨b, sl, none⟩ (.bool true)) b n (fun x => decide (dst n g x < k + 1)) where
  cell := fun j hj => by
    by_cases hjs : j = sl
    · subst hjs
      rw [cell_set_same (R.cell j hj)]
      have : dst n g j = k := by rw [esl]; exact dst_adv hg hk
      simp [this]
    · rw [cell_set_ne (.inr (by omega)), R.cell j hj]
      have hne : dst n g j ≠ k := fun e => hjs (by rw [esl, ← e, adv_dst hg hj])
      have : decide (dst n g j < k) = decide (dst n g j < k + 1) := by
        rw [decide_eq_decide]; omega
      rw [this]
  free := fun o => by rw [frozen_set]; exact R.free o

theorem Sit.below {w ww w' : World} {n : Nat} {h p h' p' : Nat → Int} {S0 : Nat} (S : Sit w ww n h p h' p' S0) (B : Below ww.heap.size ww w') : Sit w w' n h p h' p' S0 := by
  have lo := S.lo
  have up := S.up
  have sz := B.size
  exact ⟨S.r1.below (by omega) B, S.r2.below (by omega) B, S.r3.below (by omega) B, S.r4.below (by omega) B, S.bel.trans (B.mono (by omega)), lo, by omega⟩
theorem Sit.drewN {w ww : World} {n : Nat} {h p h' p' : Nat → Int} {S0 : Nat} (S : Sit w ww n h p h' p' S0) (m : Nat) : Sit w (ww.drewN m) n h p h' p' S0 :=
  ⟨S.r1.drewN m, S.r2.drewN m, S.r3.drewN m, S.r4.drewN m, ⟨S.bel.os, S.bel.tape, S.bel.output, S.bel.size, S.bel.block⟩, S.lo, S.up⟩

theorem items_any' (b off b2 off2 n c c2 N : Nat) (l : List (Int × Int)) (h p : Nat → Int) (el : l = itemsUpto h p n) (eN : N = l.length) (hn : 1 ≤ n) (hn2 : n ≤ 65536) (w : World) (hb : b < w.heap.size) (hb2 : b2 < w.heap.size)
    (hH : ∀ j, j < n → w.cell? ⟨b, off + j, none⟩ = some (.int .u64 (h j))) (hP : ∀ j, j < n → w.cell? ⟨b2, off2 + j, none⟩ = some (.int .i64 (p j))) :
    Calls Try.prog 14 #[.slice (some ⟨b, off, none⟩) n c, .slice (some ⟨b2, off2, none⟩) n c2] w fun e w' =>
      e = .returned (.slice (some ⟨w.heap.size, 0, none⟩) N n) ∧ Own w' w.heap.size w.heap.size n l ∧ Below w.heap.size w w' := by
  subst el
  subst eN
  exact items_any b off b2 off2 n c c2 h p hn hn2 w hb hb2 hH hP

/-! ### The third loop: one copy of the item is left out -/
def els (old : List (Int × Int)) (x : Int × Int) (k : Nat) : List (Int × Int) := (old.take k).erase x
def rmd (old : List (Int × Int)) (x : Int × Int) (k : Nat) : Bool := decide (x ∈ old.take k)
theorem els_le (old : List (Int × Int)) (x : Int × Int) (k : Nat) : (els old x k).length ≤ k := by
  unfold els
  have h1 := (List.erase_sublist (a := x) (l := old.take k)).length_le
  have h2 := List.length_take_le k old
  omega
theorem take_snoc {old : List (Int × Int)} {k : Nat} (hk : k < old.length) : old.take (k + 1) = old.take k ++ [old[k]] := by rw [List.take_succ_eq_append_getElem hk]
theorem els_skip {old : List (Int × Int)} {x : Int × Int} {k : Nat} (hk : k < old.length) (hr : rmd old x k = false) (hx : old[k] = x) : els old x (k + 1) = els old x k ∧ rmd old x (k + 1) = true := by
  have hno : x ∉ old.take k := by simpa [rmd] using hr
  unfold els rmd
  rw [take_snoc hk, hx]
  constructor
  · rw [List.erase_append_right _ hno, List.erase_of_not_mem hno]; simp
  · simp
theorem els_keep {old : List (Int × Int)} {x : Int × Int} {k : Nat} (hk : k < old.length) (h : rmd old x k = true ∨ old[k] ≠ x) : els old x (k + 1) = els old x k ++ [old[k]] ∧ rmd old x (k + 1) = rmd old x k := by
  unfold els rmd at *
  rw [take_snoc hk]
  rcases h with h | h
  · have hin : x ∈ old.take k := by simpa using h
    constructor
    · rw [List.erase_append_left _ hin]
    · simp only [List.mem_append, List.mem_singleton, hin, true_or]
  · by_cases hin : x ∈ old.take k
    · constructor
      · rw [List.erase_append_left _ hin]
      · simp only [List.mem_append, List.mem_singleton, hin, true_or]
    · constructor
      · rw [List.erase_append_right _ hin, List.erase_of_not_mem hin, List.erase_of_not_mem (by simpa using Ne.symm h)]
      · simp only [List.mem_append, List.mem_singleton, hin, false_or, Ne.symm h]

structure Wnt (w7 w8 ww : World) (N : Nat) (old : List (Int × Int)) (x : Int × Int) (k : Nat) : Prop where
  prs : Prs ww w7.heap.size 0 old
  own : Own ww w8.heap.size w8.heap.size N (els old x k)
  bel : Below w8.heap.size w8 ww
theorem Wnt.size {w7 w8 ww : World} {N : Nat} {old : List (Int × Int)} {x : Int × Int} {k : Nat} (W : Wnt w7 w8 ww N old x k) : w8.heap.size < ww.heap.size := (Own.lt W.own).2
theorem wnt_start {w7 w8 w9 : World} {n N : Nat} {old : List (Int × Int)} {x : Int × Int} (O : Own w8 w7.heap.size w7.heap.size n old) (hz : w7.heap.size < w8.heap.size)
    (ho : w9.ownsRow w8.heap.size 37 2 (.slice (some ⟨w8.heap.size, 0, none⟩) 0 N) 0 []) (hg : w8.grownBy w9 none) : Wnt w7 w8 w9 N old x 0 := by
  have B : Below w8.heap.size w8 w9 := (Below.refl _ _).grown hg (Nat.le_refl _) (fun _ h => by cases h)
  exact ⟨O.prs.below hz B, ho, B⟩
theorem Wnt.grow {w7 w8 ww w3 w4 : World} {N : Nat} {old : List (Int × Int)} {x : Int × Int} {k : Nat} {a b : Int} (H : Wnt w7 w8 ww N old x k) (hz : w7.heap.size < w8.heap.size) (hb : Below ww.heap.size ww w3) (hg : w3.grownBy w4 (some w8.heap.size))
    (ho : w4.ownsRow w8.heap.size 37 2 (.slice (some ⟨w8.heap.size, 0, none⟩) ((els old x k).length + 1) N) ((els old x k).length + 1) (flat (els old x k) ++ [.int .u64 a, .int .i64 b])) (e : els old x (k + 1) = els old x k ++ [(a, b)]) :
    Wnt w7 w8 w4 N old x (k + 1) := by
  have hs := H.bel.size
  have hbs := hb.size
  have B1 : Below w8.heap.size w8 w3 := H.bel.trans (hb.mono hs)
  have B2 : Below w8.heap.size w8 w4 := B1.grown hg (by omega) (fun k e => by cases e; exact Nat.le_refl _)
  have B3 : Below w8.heap.size ww w4 := (hb.mono hs).grown hg (by omega) (fun k e => by cases e; exact Nat.le_refl _)
  refine ⟨fun j hj => ?_, ?_, B2⟩
  · exact ⟨(B3.cell (p := ⟨w7.heap.size, 0 + j * 2, none⟩) hz).trans (H.prs j hj).1, (B3.cell (p := ⟨w7.heap.size, 0 + j * 2 + 1, none⟩) hz).trans (H.prs j hj).2⟩
  · rw [e]
    unfold Own
    rw [flat_snoc, List.length_append]
    exact ho

theorem second_copy {w wc wB : World} {n : Nat} {h p : Nat → Int} (R1 : Row wc w.heap.size .u64 n h) (W1 : Below w.heap.size w wc) (S1 : wc.heap.size = w.heap.size + 1) (RB : Row wB wc.heap.size .i64 n p) (BB : Below wc.heap.size wc wB) (SB : wB.heap.size = wc.heap.size + 1) :
    Value.slice (some ⟨wc.heap.size, 0, none⟩) n n = .slice (some ⟨w.heap.size + 1, 0, none⟩) n n ∧ Row wB w.heap.size .u64 n h ∧ Row wB (w.heap.size + 1) .i64 n p ∧ Below w.heap.size w wB ∧ wB.heap.size = w.heap.size + 2 := by
  refine ⟨by rw [S1], R1.below (by omega) BB, by rw [← S1]; exact RB, W1.trans (BB.mono (by omega)), by omega⟩

set_option maxHeartbeats 4000000 in
set_option maxRecDepth 100000 in
theorem main_big (b off b2 off2 n c c2 : Nat) (h p : Nat → Int) (count tch hq pp : Int) (hn : 1 ≤ n) (hn2 : n ≤ 65536) (w : World) (hb : b < w.heap.size) (hb2 : b2 < w.heap.size)
    (hH : ∀ j, j < n → w.cell? ⟨b, off + j, none⟩ = some (.int .u64 (h j))) (hP : ∀ j, j < n → w.cell? ⟨b2, off2 + j, none⟩ = some (.int .i64 (p j)))
    (hB : ∀ j, j < n → 0 ≤ h j ∧ h j ≤ 18446744073709551615) (hq0 : 0 ≤ hq) (hq1 : hq ≤ 18446744073709551615) :
    Calls Try.prog 4 #[.slice (some ⟨b, off, none⟩) n c, .slice (some ⟨b2, off2, none⟩) n c2, .int .i64 count, .int .u64 tch, .int .u64 hq, .int .i64 pp] w fun e w' => e = .returned (.bool true) ∧ Below w.heap.size w w' := by
  have HH := (show Hid _ from hH)
  have HP := (show Hid _ from hP)
  have HBd := (show Hid _ from hB)
  clear hH hP hB
  have hok : okLen n n = true := decide_eq_true (by omega)
  have o1 := or_one hq hq0 hq1
  obtain ⟨hh, ehh⟩ : ∃ hh, hh = hq / 2 * 2 + 1 := ⟨_, rfl⟩
  rw [← ehh] at o1
  have EHH := (show Hid _ from ehh)
  have hhb : 0 ≤ hh ∧ hh ≤ 18446744073709551615 := by omega
  clear ehh
  obtain ⟨C, hCs, hC, hmk⟩ := make_ones' Try.underlying22 info24 rfl (by decide) n hn2
  obtain ⟨D, hDs, hD, hmk2⟩ := make_ones' Try.underlying23 info3 rfl (by decide) n hn2
  have HCs := (show Hid _ from hCs)
  have HDs := (show Hid _ from hDs)
  clear hCs hDs hC hD
  go_enter Try.func4, Try.ntmps4
  go_upto_if 53 with (first
    | (go_at_call 16; refine (bytes_any _ _ _ _ _ _ _ _ _ _ (by unfold maxLen; omega) (by unfold maxLen; omega) _).mono ?_; rintro e w' ⟨rfl, rfl⟩)
    | (go_at_call 9; refine (valid_any b off b2 off2 n c c2 count h p hn hn2 _ HH.out HP.out HBd.out).mono ?_; rintro e w' ⟨⟨r, rfl, hr⟩, rfl⟩))
  cases r with
  | false =>
    go_wp2_with fail
    go_ret
    exact ⟨rfl, Below.refl _ _⟩
  | true =>
    obtain ⟨V, hp2⟩ := hr.1 rfl
    have HV := (show Hid _ from V)
    have hn16 := V.big
    clear V hr
    obtain ⟨cv, wA, hcp, RA, BA, SA⟩ := copy_run w C n b off c h Try.underlying22 size24 HCs.out hb HH.out
    have HRA := (show Hid _ from RA)
    have HBA := (show Hid _ from BA)
    have HSA := (show Hid _ from SA)
    clear RA BA SA
    go_upto_if 55 with fail
    go_cut [0, 13] from 56 to 62 (fun s _ wx => s = .slice (some ⟨w.heap.size, 0, none⟩) n n ∧ Row wx w.heap.size .u64 n h ∧ Below w.heap.size w wx ∧ wx.heap.size = w.heap.size + 1)
    case first =>
      go_wp2_with fail
      go_meet
      case rel => exact ⟨rfl, HRA.out, HBA.out, HSA.out⟩
    obtain ⟨rfl, hR1, hW1, hS1⟩ := hcut
    have HR1 := (show Hid _ from hR1)
    have HW1 := (show Hid _ from hW1)
    have HS1 := (show Hid _ from hS1)
    clear hR1 hW1 hS1 HRA HBA HSA hcp hmk HCs
    obtain ⟨cv2, wB, hcp2, RB, BB, SB⟩ := copy_run wc D n b2 off2 c2 p Try.underlying23 size3 HDs.out (by have := HS1.out; omega) (fun j hj => (HW1.out.cell (p := ⟨b2, off2 + j, none⟩) hb2).trans (HP.out j hj))
    have HRB := (show Hid _ from RB)
    have HBB := (show Hid _ from BB)
    have HSB := (show Hid _ from SB)
    clear RB BB SB
    go_upto_if 64 with fail
    go_cut [1, 14] from 65 to 71 (fun s _ wx => s = .slice (some ⟨w.heap.size + 1, 0, none⟩) n n ∧ Row wx w.heap.size .u64 n h ∧ Row wx (w.heap.size + 1) .i64 n p ∧ Below w.heap.size w wx ∧ wx.heap.size = w.heap.size + 2)
    case first =>
      go_wp2_with fail
      go_meet
      case rel => exact second_copy HR1.out HW1.out HS1.out HRB.out HBB.out HSB.out
    obtain ⟨rfl, hR1, hR2, hW2, hS2⟩ := hcut
    have HR1' := (show Hid _ from hR1)
    have HR2 := (show Hid _ from hR2)
    have HW2 := (show Hid _ from hW2)
    have HS2 := (show Hid _ from hS2)
    clear hR1 hR2 hW2 hS2 HR1 HW1 HS1 HRB HBB HSB hcp2 hmk2 HDs
    go_upto_if 79 with (go_at_call 17; refine (holds_any w.heap.size 0 (w.heap.size + 1) 0 n n n h p hh pp hn hn2 _ HR1'.out.off HR2.out.off).mono ?_; rintro e w' ⟨⟨r, rfl, hr⟩, rfl⟩)
    cases r with
    | false =>
      go_wp2_with fail
      go_ret
      exact ⟨rfl, HW2.out⟩
    | true =>
      obtain ⟨i0, hi0, hi1, hi2⟩ := hr.1 rfl
      have hhz : hh ≠ 0 := by have := EHH.out; omega
      obtain ⟨E, Dd, hE, hEz, hLI, hSk, hc1, hc2⟩ := prep HV.out hn2 hi0 hi1 hi2 hhz
      have HEz : Hid (h E = 0) := hEz
      have HLI := (show Hid _ from hLI)
      have HSk := (show Hid _ from hSk)
      have HI : Hid (∃ i, i < n ∧ h i = hh ∧ p i = pp) := hr.1 rfl
      have HHZ := (show Hid _ from hhz)
      clear hr hi1 hi2 hEz hLI hSk hhz hi0 i0
      go_upto_region 19 with (go_at_call 10; refine (make_any w.heap.size 0 (w.heap.size + 1) 0 n n n h p count tch hn hn2 wc (by have := HS2.out; omega) (by have := HS2.out; omega) HR1'.out.off HR2.out.off).mono ?_; rintro e w3 ⟨rfl, hT3, hB3⟩)
      have HT3 := (show Hid _ from hT3)
      have HB3 := (show Hid _ from hB3)
      clear hT3 hB3
      go_upto_region 20 with (go_at_call 18; refine (del_any wc.heap.size (wc.heap.size + 1) n n E Dd count tch hq hh pp h p hn16 hn2 hp2 hq0 hq1 EHH w3 HT3.out hc1 hc2 hE HEz HLI.out HV.out.slots HBd.out HSk.out).mono ?_; rintro e w4 ⟨rfl, hD4⟩)
      obtain ⟨h', p', hDel, hT4, hO4, hB4⟩ := hD4
      have HDel := (show Hid _ from hDel)
      have HT4 := (show Hid _ from hT4)
      have HO4 := (show Hid _ from hO4)
      have HB4 := (show Hid _ from hB4)
      clear hDel hT4 hO4 hB4
      go_upto_region 21 with (go_at_call 12; refine (state_any wc.heap.size (wc.heap.size + 1) n n h' p' (count - 1) tch hn hn2 w4 (World.block_lt_of_cell? _ _ HT4.out.slots) (World.block_lt_of_cell? _ _ (HT4.out.hs 0 (by omega))) HT4.out).mono ?_; rintro e w5 ⟨rfl, hr1, hr2, hB5, hz5⟩)
      obtain ⟨S0, eS0⟩ : ∃ S0, S0 = w4.heap.size := ⟨_, rfl⟩
      rw [← eS0] at hr1 hr2 hB5 hz5
      rw [← eS0]
      have HSit : Hid (Sit w w5 n h p h' p' S0) := sit_mk HR1'.out HR2.out HW2.out HS2.out HB3.out HO4.out HT3.out eS0 hr1 hr2 hB5 hz5
      clear hr1 hr2 hB5 hz5 eS0 HR1' HR2 HW2 HS2 HT3 HB3 HT4 HO4 HLI HSk HEz HI
      have HV5 : Hid (Valid n h' p' (count - 1)) := deleted_valid HHZ.out HV.out HDel.out
      go_upto_if 123 with (go_at_call 9; refine (valid_any S0 0 (S0 + 1) 0 n n n (count - 1) h' p' hn hn2 _ HSit.out.r3.off HSit.out.r4.off HB4.out).mono ?_; rintro e w' ⟨⟨r, rfl, hr⟩, rfl⟩)
      obtain rfl : true = r := (hr.2 ⟨HV5.out, hp2⟩).symm
      clear hr
      -- the stretch
      obtain ⟨iz, L, hiz, hL, hLocc, hLz, hizL, hin, hout⟩ := HDel.out.stretch
      have hg0 := hom_lt (n := n) (by omega) hh
      have hg1 : bits .and .i64 (hh / 2) ((n : Int) - 1) = ((hom n hh : Nat) : Int) := by rw [hp2.and]; exact hom_mod (by omega) hh
      obtain ⟨g, eg⟩ : ∃ g, g = hom n hh := ⟨_, rfl⟩
      rw [← eg] at hLocc hLz hizL hin hout hg0 hg1
      have HLo := (show Hid _ from hLocc)
      have HLz := (show Hid _ from hLz)
      have HIz := (show Hid _ from hizL)
      have HIn := (show Hid _ from hin)
      have HOut := (show Hid _ from hout)
      clear hLocc hLz hizL hin hout eg
      obtain ⟨C4, hC4s, hC4, hmk4⟩ := make_ones' Try.underlying40 info4 rfl (by decide) n hn2
      have S6 : Hid (Sit w (w5.alloc (.cells C4 4)) n h p h' p' S0 ∧ BRow (w5.alloc (.cells C4 4)) w5.heap.size n (fun x => decide (dst n g x < 0))) := bool_start HSit.out hC4
      have hI0 : S0 + 1 < w5.heap.size := HSit.out.up
      have hS0 : w.heap.size + 2 ≤ S0 := HSit.out.lo
      clear hC4s hC4 HSit
      go_wp2_with fail
      go_loopg [25] L (fun gk' i ww => ∃ k : Nat, k + gk' = L ∧ i = .int .i64 k ∧ Sit w ww n h p h' p' S0 ∧ BRow ww w5.heap.size n (fun x => decide (dst n g x < k)))
      case atStart => exact ⟨0, by omega, rfl, S6.out.1, S6.out.2⟩
      case round =>
        clear S6
        obtain ⟨k, hk, rfl, hSit, hBR⟩ := hrel
        have hs0 := adv_lt (n := n) (k := k) hg0 (by omega)
        have hs1 : bits .and .i64 ((g : Int) + (k : Int)) ((n : Int) - 1) = ((adv n g k : Nat) : Int) := by rw [hp2.and]; exact adv_mod hg0 (by omega)
        have c1 := hSit.r1.cell _ hs0
        have c2 := hBR.cell _ hs0
        have f2 := hBR.free (adv n g k)
        obtain ⟨sl, esl⟩ : ∃ sl, sl = adv n g k := ⟨_, rfl⟩
        rw [← esl] at hs0 hs1 c1 c2 f2
        obtain ⟨v, ev⟩ : ∃ v, v = h sl := ⟨_, rfl⟩
        rw [← ev] at c1
        have HSit := (show Hid _ from hSit)
        have HBR := (show Hid _ from hBR)
        have ESL := (show Hid _ from esl)
        have EV := (show Hid _ from ev)
        clear hSit hBR esl ev
        by_cases hkL : k < L
        · have hvb : (v == 0) = false := by
            have := HLo.out k hkL
            rw [← ESL.out, ← EV.out] at this
            simpa using this
          go_wp2_with fail
          go_roundg (gk - 1)
          case measure => omega
          case rel => exact ⟨k + 1, by omega, by go_num, HSit.out.set hI0, brow_next HBR.out hs0 hg0 ESL.out (by omega)⟩
        · obtain rfl : L = k := by omega
          have hvb : (v == 0) = true := by
            have := HLz.out
            rw [← ESL.out, ← EV.out] at this
            simpa using this
          go_wp2_with fail
          clear c1 c2 f2 hs1 hvb
          obtain ⟨w6, rfl⟩ : ∃ w6, w6 = wr := ⟨_, rfl⟩
          go_loopg [27, 28] n (fun gk' fr i ww => ∃ k m : Nat, k + gk' = n ∧ i = .int .i64 k ∧ fr = .int .i64 (freedN n g L h' k : Nat) ∧ ww = w6.drewN m)
          case atStart => exact ⟨0, 0, by omega, rfl, rfl, rfl⟩
          case round =>
            obtain ⟨k, m, hkn, rfl, rfl, rfl⟩ := hrel
            have hfl := freedN_le n g L h' k
            by_cases hlt : k < n
            · have q1 := HSit.out.r1.cell k hlt
              have q2 := HSit.out.r2.cell k hlt
              have q3 := HSit.out.r3.cell k hlt
              have q4 := HSit.out.r4.cell k hlt
              have qb := HBR.out.cell k hlt
              by_cases hx : dst n g k < L
              · rw [decide_eq_true hx] at qb
                obtain ⟨u, eu⟩ : ∃ u, u = h' k := ⟨_, rfl⟩
                rw [← eu] at q3
                have EU := (show Hid _ from eu)
                have HX := (show Hid _ from hx)
                clear eu hx q1 q2 q4
                by_cases huz : u = 0
                · have hub : (u == 0) = true := by simp [huz]
                  have F : Hid (freedN n g L h' (k + 1) = freedN n g L h' k + 1) := by
                    show freedN n g L h' (k + 1) = _
                    rw [freedN, if_pos ⟨HX.out, by rw [← EU.out]; exact huz⟩]
                  clear huz
                  go_wp2_with fail
                  go_roundg (gk - 1)
                  case measure => omega
                  case rel => exact ⟨k + 1, m, by omega, by go_num, by rw [F.out]; go_num, rfl⟩
                · have hub : (u == 0) = false := by simpa using huz
                  have F : Hid (freedN n g L h' (k + 1) = freedN n g L h' k) := by
                    show freedN n g L h' (k + 1) = _
                    rw [freedN, if_neg (fun hc => huz (by rw [EU.out]; exact hc.2))]
                    rfl
                  clear huz
                  go_wp2_with fail
                  go_roundg (gk - 1)
                  case measure => omega
                  case rel => exact ⟨k + 1, m, by omega, by go_num, by rw [F.out], rfl⟩
              · rw [decide_eq_false hx] at qb
                obtain ⟨e1, e2⟩ := HOut.out k hlt hx
                rw [e1] at q3
                rw [e2] at q4
                obtain ⟨u, eu⟩ : ∃ u, u = h k := ⟨_, rfl⟩
                obtain ⟨t, et⟩ : ∃ t, t = p k := ⟨_, rfl⟩
                rw [← eu] at q1 q3
                rw [← et] at q2 q4
                have F : Hid (freedN n g L h' (k + 1) = freedN n g L h' k) := by
                  show freedN n g L h' (k + 1) = _
                  rw [freedN, if_neg (fun hc => hx hc.1)]
                  rfl
                clear eu et e1 e2 hx
                go_wp2_with fail
                go_quiet (fail)
                go_wp2_with fail
                go_roundg (gk - 1)
                case measure => omega
                case rel => exact ⟨k + 1, _, by omega, by go_num, by rw [F.out], rfl⟩
            · have F : freedN n g L h' k = 1 := by
                have := freedN_one hiz HIz.out HIn.out k (by omega)
                rw [if_pos (by omega)] at this
                exact this
              rw [F]
              clear F hfl
              go_upto_region 46 with fail
              obtain ⟨w7, ew7⟩ : ∃ w7, w7 = w6.drewN m := ⟨_, rfl⟩
              have HS7 : Hid (Sit w w7 n h p h' p' S0) := by rw [ew7]; exact HSit.out.drewN m
              rw [← ew7]
              clear ew7 HSit HBR
              obtain ⟨old, eold⟩ : ∃ old, old = itemsUpto h p n := ⟨_, rfl⟩
              obtain ⟨N, eN⟩ : ∃ N, N = old.length := ⟨_, rfl⟩
              have hNn : N ≤ n := by rw [eN, eold]; exact itemsUpto_le h p n
              have EO := (show Hid _ from eold)
              have EN := (show Hid _ from eN)
              clear eold eN
              have hw7 : S0 + 1 < w7.heap.size := HS7.out.up
              go_upto_region 47 with (go_at_call 14; refine (items_any' w.heap.size 0 (w.heap.size + 1) 0 n n n N old h p EO.out EN.out hn hn2 w7 (by omega) (by omega) HS7.out.r1.off HS7.out.r2.off).mono ?_; rintro e w8 ⟨rfl, hO8, hB8⟩)
              have HO8 := (show Hid _ from hO8)
              have HB8 := (show Hid _ from hB8)
              have hz8 : w7.heap.size < w8.heap.size := (Own.lt hO8).2
              clear hO8 hB8
              obtain ⟨ti, hti, htz0, htz1, htz2⟩ := info_parts info37
              go_wp2_with (at_make; refine wpList_make_own _ rfl _ _ 34 rfl w8.heap.size 37 ti _ 2 Try.underlying34 hti htz0 htz1 .i64 .i64 _ N rfl rfl rfl (by rw [htz2]; omega) (by unfold maxLen; omega) (Nat.le_refl _) ?_; intro w9 hown9 hgrow9)
              have W0 : Hid (Wnt w7 w8 w9 N old (hh, pp) 0) := wnt_start HO8.out hz8 hown9 hgrow9
              clear hown9 hgrow9
              go_loopg [30, 31, 32] N (fun gk' v rm i ww => ∃ k : Nat, k + gk' = N ∧ i = .int .i64 k ∧ rm = .bool (rmd old (hh, pp) k) ∧ v = .slice (some ⟨w8.heap.size, 0, none⟩) (els old (hh, pp) k).length N ∧ Wnt w7 w8 ww N old (hh, pp) k)
              case atStart => exact ⟨0, by omega, rfl, rfl, rfl, W0.out⟩
              case round =>
                clear W0
                obtain ⟨k3, hk3, rfl, rfl, rfl, hW3⟩ := hrel
                have hel := els_le old (hh, pp) k3
                have hw3 := hW3.size
                obtain ⟨LE, eLE⟩ : ∃ LE, LE = (els old (hh, pp) k3).length := ⟨_, rfl⟩
                rw [← eLE] at hel
                rw [← eLE]
                have ELE := (show Hid _ from eLE)
                have HW3 := (show Hid _ from hW3)
                clear eLE hW3
                by_cases hlt3 : k3 < N
                · have hk4 : k3 < old.length := by have := EN.out; omega
                  have x1 := (HW3.out.prs k3 hk4).1
                  have x2 := (HW3.out.prs k3 hk4).2
                  simp only [Nat.zero_add] at x1 x2
                  obtain ⟨lx, elx⟩ : ∃ q, q = old[k3] := ⟨_, rfl⟩
                  rw [← elx] at x1 x2
                  obtain ⟨a1, a2⟩ := lx
                  simp only at x1 x2
                  have EL := (show Hid _ from elx)
                  clear elx
                  have HOW : Hid (wr.ownsRow w8.heap.size 37 2 (.slice (some ⟨w8.heap.size, 0, none⟩) LE N) LE (flat (els old (hh, pp) k3))) := by rw [ELE.out]; exact HW3.out.own
                  cases hrm : rmd old (hh, pp) k3 with
                  | true =>
                    have RM : Hid (rmd old (hh, pp) k3 = true) := hrm
                    have KP : Hid (els old (hh, pp) (k3 + 1) = els old (hh, pp) k3 ++ [old[k3]] ∧ rmd old (hh, pp) (k3 + 1) = rmd old (hh, pp) k3) := els_keep hk4 (.inl hrm)
                    clear hrm
                    go_wp2_with (at_builtin; refine wpList_append_fits _ rfl _ _ 34 rfl w8.heap.size 37 ti 2 Try.underlying34 hti htz1 w8.heap.size LE N (flat (els old (hh, pp) k3)) rfl (by exact World.ownsRow.alloc HOW.out _) ⟨wr.heap.size, 0, none⟩ 1 1 [.int .u64 a1, .int .i64 a2] rfl rfl (by exact new_pair wr a1 a2) (pair_oneCell _ _) (by omega) ?_; intro w10 hown10 hgrow10)
                    go_roundg (gk - 1)
                    case measure => omega
                    case rel =>
                      have e1 : els old (hh, pp) (k3 + 1) = els old (hh, pp) k3 ++ [(a1, a2)] := by rw [KP.out.1, ← EL.out]
                      exact ⟨k3 + 1, by omega, by go_num, by rw [KP.out.2, RM.out], by rw [e1, List.length_append, ← ELE.out]; rfl, HW3.out.grow hz8 ((Below.refl _ _).alloc (Nat.le_refl _) _) hgrow10 (by rw [← ELE.out]; exact hown10) e1⟩
                  | false =>
                    have RM : Hid (rmd old (hh, pp) k3 = false) := hrm
                    by_cases hb1 : a1 = hh
                    · by_cases hb2' : a2 = pp
                      · have SK := els_skip (x := (hh, pp)) hk4 hrm (by rw [← EL.out, hb1, hb2'])
                        have HSK := (show Hid _ from SK)
                        have t1 : (a1 == hh) = true := by simp [hb1]
                        have t2 : (a2 == pp) = true := by simp [hb2']
                        clear hrm hb1 hb2' SK
                        go_wp2_with fail
                        go_roundg (gk - 1)
                        case measure => omega
                        case rel => exact ⟨k3 + 1, by omega, by go_num, by rw [HSK.out.2], by rw [HSK.out.1, ELE.out], ⟨HW3.out.prs, by rw [HSK.out.1]; exact HW3.out.own, HW3.out.bel⟩⟩
                      · have KP : Hid (els old (hh, pp) (k3 + 1) = els old (hh, pp) k3 ++ [old[k3]] ∧ rmd old (hh, pp) (k3 + 1) = rmd old (hh, pp) k3) := els_keep hk4 (.inr (by rw [← EL.out]; intro hx; exact hb2' (congrArg Prod.snd hx)))
                        have t1 : (a1 == hh) = true := by simp [hb1]
                        have t2 : (a2 == pp) = false := by simpa using hb2'
                        clear hrm hb1 hb2'
                        go_wp2_with (at_builtin; refine wpList_append_fits _ rfl _ _ 34 rfl w8.heap.size 37 ti 2 Try.underlying34 hti htz1 w8.heap.size LE N (flat (els old (hh, pp) k3)) rfl (by exact World.ownsRow.alloc HOW.out _) ⟨wr.heap.size, 0, none⟩ 1 1 [.int .u64 a1, .int .i64 a2] rfl rfl (by exact new_pair wr a1 a2) (pair_oneCell _ _) (by omega) ?_; intro w10 hown10 hgrow10)
                        go_roundg (gk - 1)
                        case measure => omega
                        case rel =>
                          have e1 : els old (hh, pp) (k3 + 1) = els old (hh, pp) k3 ++ [(a1, a2)] := by rw [KP.out.1, ← EL.out]
                          exact ⟨k3 + 1, by omega, by go_num, by rw [KP.out.2, RM.out], by rw [e1, List.length_append, ← ELE.out]; rfl, HW3.out.grow hz8 ((Below.refl _ _).alloc (Nat.le_refl _) _) hgrow10 (by rw [← ELE.out]; exact hown10) e1⟩
                    · have KP : Hid (els old (hh, pp) (k3 + 1) = els old (hh, pp) k3 ++ [old[k3]] ∧ rmd old (hh, pp) (k3 + 1) = rmd old (hh, pp) k3) := els_keep hk4 (.inr (by rw [← EL.out]; intro hx; exact hb1 (congrArg Prod.fst hx)))
                      have t1 : (a1 == hh) = false := by simpa using hb1
                      clear hrm hb1
                      go_wp2_with (at_builtin; refine wpList_append_fits _ rfl _ _ 34 rfl w8.heap.size 37 ti 2 Try.underlying34 hti htz1 w8.heap.size LE N (flat (els old (hh, pp) k3)) rfl (by exact World.ownsRow.alloc HOW.out _) ⟨wr.heap.size, 0, none⟩ 1 1 [.int .u64 a1, .int .i64 a2] rfl rfl (by exact new_pair wr a1 a2) (pair_oneCell _ _) (by omega) ?_; intro w10 hown10 hgrow10)
                      go_roundg (gk - 1)
                      case measure => omega
                      case rel =>
                        have e1 : els old (hh, pp) (k3 + 1) = els old (hh, pp) k3 ++ [(a1, a2)] := by rw [KP.out.1, ← EL.out]
                        exact ⟨k3 + 1, by omega, by go_num, by rw [KP.out.2, RM.out], by rw [e1, List.length_append, ← ELE.out]; rfl, HW3.out.grow hz8 ((Below.refl _ _).alloc (Nat.le_refl _) _) hgrow10 (by rw [← ELE.out]; exact hown10) e1⟩
                · have PM : Hid ((itemsUpto h' p' n).Perm (els old (hh, pp) k3)) := by
                    show (itemsUpto h' p' n).Perm (els old (hh, pp) k3)
                    unfold els
                    rw [List.take_of_length_le (by have := EN.out; omega), EO.out]
                    exact deleted_items HHZ.out HDel.out
                  have hLl : LE = (itemsUpto h' p' n).length := by rw [ELE.out]; exact PM.out.length_eq.symm
                  have HLl := (show Hid _ from hLl)
                  have hLn : LE ≤ n := by rw [hLl]; exact itemsUpto_le h' p' n
                  have HB9 : Hid (Below w7.heap.size w7 wr) := HB8.out.trans (HW3.out.bel.mono (by omega))
                  have HS9 : Hid (Sit w wr n h p h' p' S0) := HS7.out.below HB9.out
                  clear hLl
                  go_wp2_with fail
                  refine (items_any' S0 0 (S0 + 1) 0 n n n LE (itemsUpto h' p' n) h' p' rfl HLl.out hn hn2 wr (by omega) (by omega) HS9.out.r3.off HS9.out.r4.off).mono ?_
                  rintro e w10 ⟨rfl, hO10, hB10⟩
                  have HO10 := (show Hid _ from hO10)
                  have HB10 := (show Hid _ from hB10)
                  have hz10 : wr.heap.size < w10.heap.size := (Own.lt hO10).2
                  clear hO10 hB10
                  go_wp2_with fail
                  refine (same_any (itemsUpto h' p' n) (els old (hh, pp) k3) LE wr.heap.size w8.heap.size n N w10 PM HLl.out.symm ELE.out.symm (by omega) hLn (by omega) hz10 (by omega) (Own.prs HO10.out) (Own.prs (Own.below HW3.out.own HB10.out))).mono ?_
                  rintro e w11 ⟨rfl, hB11⟩
                  have HB11 := (show Hid _ from hB11)
                  clear hB11
                  go_wp2_with fail
                  go_ret
                  refine ⟨rfl, (HS9.out.bel.trans (HB10.out.mono ?_)).trans (HB11.out.mono ?_)⟩ <;> omega
end Go.Proofs.Qxb6602356a
