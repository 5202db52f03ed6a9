import Derived.Test.Qxb6603421aW6
import Derived.Laws.Bits64
namespace Go.Proofs.Qxb6603421a
open Go.RowKit
set_option linter.unusedVariables false

/-- Block b holds, from its head on, the numbers f 0 .. f (n-1). -/
structure IRow (w : World) (b : Nat) (k : IntKind) (n : Nat) (f : Nat → Nat) : Prop where
  cell : ∀ j, j < n → w.cell? ⟨b, j, none⟩ = some (.int k ((f j : Nat) : Int))
  free : ∀ o, w.frozen? ⟨b, o, none⟩ = false
theorem IRow.drewN {w : World} {b : Nat} {k : IntKind} {n : Nat} {f : Nat → Nat} (R : IRow w b k n f) (m : Nat) : IRow (w.drewN m) b k n f := ⟨R.cell, R.free⟩
theorem IRow.drew {w : World} {b : Nat} {k : IntKind} {n : Nat} {f : Nat → Nat} (R : IRow w b k n f) : IRow w.drew b k n f := ⟨R.cell, R.free⟩
theorem IRow.set {w : World} {b : Nat} {k : IntKind} {n : Nat} {f : Nat → Nat} (R : IRow w b k n f) {i : Nat} (hi : i < n) (m : Nat) {v : Int} (hv : v = (m : Nat)) : IRow (w.setCell ⟨b, i, none⟩ (.int k v)) b k n (upd f i m) where
  cell := fun j hj => by
    by_cases hji : j = i
    · subst hji; rw [cell_set_same (R.cell j hj), hv]; simp [upd]
    · rw [cell_set_ne (.inr (by omega)), R.cell j hj]; simp [upd, hji]
  free := fun o => by rw [frozen_set]; exact R.free o
theorem IRow.other {w : World} {b : Nat} {k : IntKind} {n : Nat} {f : Nat → Nat} (R : IRow w b k n f) {b' o : Nat} (hb : b' ≠ b) (u : Value) : IRow (w.setCell ⟨b', o, none⟩ u) b k n f where
  cell := fun j hj => by rw [cell_set_ne (.inl hb)]; exact R.cell j hj
  free := fun o => by rw [frozen_set]; exact R.free o
theorem IRow.congr {w : World} {b : Nat} {k : IntKind} {n : Nat} {f g : Nat → Nat} (R : IRow w b k n f) (e : ∀ j, j < n → f j = g j) : IRow w b k n g := ⟨fun j hj => by rw [← e j hj]; exact R.cell j hj, R.free⟩
theorem IRow.only {S : Nat → Prop} {w w' : World} {b : Nat} {k : IntKind} {n : Nat} {f : Nat → Nat} (R : IRow w b k n f) (hb : b < w.heap.size) (hw : Only S w w') (hn : ¬ S b) : IRow w' b k n f :=
  ⟨fun j hj => hw.cell (R.cell j hj) hn, fun o => (hw.frozen (a := ⟨b, o, none⟩) hb hn).trans (R.free o)⟩
theorem IRow.below {w w' : World} {b : Nat} {k : IntKind} {n : Nat} {f : Nat → Nat} (R : IRow w b k n f) (hb : b < w.heap.size) (hw : Below w.heap.size w w') : IRow w' b k n f :=
  ⟨fun j hj => (hw.cell (p := ⟨b, j, none⟩) hb).trans (R.cell j hj), fun o => (hw.frozen (p := ⟨b, o, none⟩) hb).trans (R.free o)⟩

/-- The places found so far. -/
structure Pls (w ww : World) (x : Nat → Key) (n b pl : Nat) (sh : Nat → Nat) : Prop where
  row : IRow ww w.heap.size .i64 8 sh
  inv : PInv x n b pl sh
  bel : Below w.heap.size w ww
  size : ww.heap.size = w.heap.size + 1
theorem zeros8 (j : Nat) (hj : j < 8) : (#[.int .i64 0, .int .i64 0, .int .i64 0, .int .i64 0, .int .i64 0, .int .i64 0, .int .i64 0, .int .i64 0] : Array Value)[j]? = some (.int .i64 0) := by
  match j, hj with
  | 0, _ | 1, _ | 2, _ | 3, _ | 4, _ | 5, _ | 6, _ | 7, _ => rfl
theorem Pls.start (w : World) (x : Nat → Key) (n : Nat) : Pls w (w.alloc (.cells #[.int .i64 0, .int .i64 0, .int .i64 0, .int .i64 0, .int .i64 0, .int .i64 0, .int .i64 0, .int .i64 0] 75)) x n 0 0 (fun _ => 0) :=
  ⟨⟨fun j hj => by rw [World.cell?_alloc_at _ _ _ _ rfl]; exact zeros8 j hj, fun o => by go_simp⟩, PInv.start _ _ _, (Below.refl _ _).alloc (Nat.le_refl _) _, by simp⟩
theorem Pls.skip {w ww : World} {x : Nat → Key} {n b pl : Nat} {sh : Nat → Nat} (P : Pls w ww x n b pl sh) (h : byt (8 * b) (sm x n ^^^ df x n) = 0) : Pls w ww x n (b + 1) pl sh := ⟨P.row, P.inv.skip h, P.bel, P.size⟩
theorem Pls.take {w ww : World} {x : Nat → Key} {n b pl : Nat} {sh : Nat → Nat} (P : Pls w ww x n b pl sh) (hb : b < 8) {v : Int} (hv : v = (8 * b : Nat)) : Pls w (ww.setCell ⟨w.heap.size, pl, none⟩ (.int .i64 v)) x n (b + 1) (pl + 1) (upd sh pl (8 * b)) :=
  ⟨P.row.set (by have := P.inv.le; omega) _ hv, P.inv.take hb, P.bel.setCell (Nat.le_refl _) _, by simp [World.setCell, P.size]⟩

theorem t78z : Try.t78.zero = some (.agg (Array.replicate 2048 (.int .u32 0))) := by kernel_rfl
theorem zero78 : ∃ Z : Array Value, (∀ j, j < 2048 → Z[j]? = some (.int .u32 0)) ∧ ∀ w, (zeroValue 78).run Try.prog w = .ok (.agg Z) w := by
  refine ⟨Array.replicate 2048 (.int .u32 0), fun j hj => by rw [Array.getElem?_replicate, if_pos hj], fun w => ?_⟩
  simp [zeroValue, t78z]

/-- The counts: of the places below p whole, of the place p over the first i keys. -/
def cnts (D : Nat → Nat → Nat) (n p i : Nat) : Nat → Nat := fun m => if m / 256 < p then cE (D (m / 256)) (m % 256) n else if m / 256 = p then cE (D p) (m % 256) i else 0
theorem cnts_start (D : Nat → Nat → Nat) (n m : Nat) : cnts D n 0 0 m = 0 := by
  unfold cnts
  rw [if_neg (by omega)]
  split
  · rfl
  · rfl
theorem cnts_at (D : Nat → Nat → Nat) (n p i : Nat) {v : Nat} (hv : v < 256) : cnts D n p i (p * 256 + v) = cE (D p) v i := by
  unfold cnts
  rw [if_neg (by omega), if_pos (by omega), show (p * 256 + v) % 256 = v by omega]
theorem cnts_done (D : Nat → Nat → Nat) (n p q i : Nat) (hq : q < p) {v : Nat} (hv : v < 256) : cnts D n p i (q * 256 + v) = cE (D q) v n := by
  unfold cnts
  rw [show (q * 256 + v) / 256 = q by omega, if_pos hq, show (q * 256 + v) % 256 = v by omega]
theorem cnts_step (D : Nat → Nat → Nat) (n p i : Nat) (hd : D p i < 256) : cnts D n p (i + 1) = upd (cnts D n p i) (p * 256 + D p i) (cE (D p) (D p i) i + 1) := by
  funext m
  unfold upd
  by_cases h : m = p * 256 + D p i
  · rw [if_pos h, h, cnts_at D n p (i + 1) hd, cE_hit (D p) rfl]
  · rw [if_neg h]
    unfold cnts
    by_cases h1 : m / 256 < p
    · rw [if_pos h1, if_pos h1]
    · rw [if_neg h1, if_neg h1]
      by_cases h2 : m / 256 = p
      · rw [if_pos h2, if_pos h2, cE_miss (D p) (by omega)]
      · rw [if_neg h2, if_neg h2]
theorem cnts_next (D : Nat → Nat → Nat) (n p : Nat) : cnts D n (p + 1) 0 = cnts D n p n := by
  funext m
  unfold cnts
  by_cases h1 : m / 256 < p
  · rw [if_pos (by omega), if_pos h1]
  · by_cases h2 : m / 256 = p
    · rw [if_pos (by omega), if_neg h1, if_pos h2, h2]
    · rw [if_neg (by omega), if_neg h1, if_neg h2]
      split <;> rfl

/-- The counts as they are laid. -/
structure Cnt (w ww : World) (x : Nat → Key) (n : Nat) (sh : Nat → Nat) (p i : Nat) : Prop where
  shr : IRow ww w.heap.size .i64 8 sh
  cnt : IRow ww (w.heap.size + 1) .u32 2048 (cnts (dg x sh) n p i)
  bel : Below w.heap.size w ww
  size : ww.heap.size = w.heap.size + 2
theorem Cnt.start {w ww : World} {x : Nat → Key} {n b pl : Nat} {sh : Nat → Nat} (P : Pls w ww x n b pl sh) {Z : Array Value} (hZ : ∀ j, j < 2048 → Z[j]? = some (.int .u32 0)) : Cnt w (ww.alloc (.cells Z 78)) x n sh 0 0 where
  shr := P.row.below (by have := P.size; omega) ((Below.refl _ _).alloc (Nat.le_refl _) _)
  cnt := ⟨fun j hj => by rw [World.cell?_alloc_at _ _ _ _ P.size.symm]; rw [cnts_start]; exact hZ j hj, fun o => by
    unfold World.frozen?
    rw [← P.size, heap_alloc_new]
    simp⟩
  bel := P.bel.alloc (by have := P.size; omega) _
  size := by simp [P.size]
theorem Cnt.next {w ww : World} {x : Nat → Key} {n : Nat} {sh : Nat → Nat} {p : Nat} (C : Cnt w ww x n sh p n) : Cnt w ww x n sh (p + 1) 0 :=
  ⟨C.shr, by rw [cnts_next]; exact C.cnt, C.bel, C.size⟩
theorem Cnt.step {w ww : World} {x : Nat → Key} {n : Nat} {sh : Nat → Nat} {p i bb : Nat} (C : Cnt w ww x n sh p i) (hp : p < 8) (hb : bb = dg x sh p i) {v : Int} (hv : v = (cE (dg x sh p) bb i : Nat) + 1) :
    Cnt w (ww.setCell ⟨w.heap.size + 1, p * 256 + bb, none⟩ (.int .u32 v)) x n sh p (i + 1) where
  shr := C.shr.other (by omega) _
  cnt := by
    have hl : dg x sh p i < 256 := byt_lt _ _
    rw [cnts_step (dg x sh) n p i hl, hb]
    exact C.cnt.set (by omega) _ (by rw [hv, hb]; simp)
  bel := C.bel.setCell (by simp) _
  size := by simp [World.setCell, C.size]
theorem Cnt.drew {w ww : World} {x : Nat → Key} {n : Nat} {sh : Nat → Nat} {p i : Nat} (C : Cnt w ww x n sh p i) : Cnt w ww.drew x n sh p i :=
  ⟨C.shr.drew, C.cnt.drew, C.bel.drew, C.size⟩

/-- The counts of the place p are f, the others F. -/
def ovr (F : Nat → Nat) (p : Nat) (f : Nat → Nat) : Nat → Nat := fun m => if m / 256 = p then f (m % 256) else F m
theorem ovr_at (F : Nat → Nat) (p : Nat) (f : Nat → Nat) {v : Nat} (hv : v < 256) : ovr F p f (p * 256 + v) = f v := by
  unfold ovr
  rw [if_pos (by omega), show (p * 256 + v) % 256 = v by omega]
theorem ovr_off (F : Nat → Nat) (p q : Nat) (f : Nat → Nat) {v : Nat} (hv : v < 256) (h : q ≠ p) : ovr F p f (q * 256 + v) = F (q * 256 + v) := by
  unfold ovr
  rw [if_neg (by omega)]
theorem ovr_upd (F : Nat → Nat) (p : Nat) (f : Nat → Nat) {v : Nat} (hv : v < 256) (e : Nat) : ovr F p (upd f v e) = upd (ovr F p f) (p * 256 + v) e := by
  funext m
  unfold ovr upd
  by_cases h : m = p * 256 + v
  · rw [if_pos (by omega), if_pos (by omega), if_pos h]
  · rw [if_neg h]
    by_cases h2 : m / 256 = p
    · rw [if_pos h2, if_neg (by omega)]; exact (if_pos h2).symm
    · rw [if_neg h2]; exact (if_neg h2).symm

/-- The world in a pass: the keys y at Bs, what is being laid, z, at Bd, the shifts, the counts F. -/
structure Wd (w ww : World) (Bg Bt Bs Bd n : Nat) (y z : Nat → Key) (sh F : Nat → Nat) : Prop where
  side : (Bs = Bg ∧ Bd = Bt) ∨ (Bs = Bt ∧ Bd = Bg)
  ls : Bs < w.heap.size
  ld : Bd < w.heap.size
  ne : Bs ≠ Bd
  src : Row ww Bs n y
  dst : Row ww Bd n z
  shr : IRow ww w.heap.size .i64 8 sh
  cnt : IRow ww (w.heap.size + 1) .u32 2048 F
  only : Only (fun k => k = Bg ∨ k = Bt) w ww
  size : ww.heap.size = w.heap.size + 2
theorem Wd.drew {w ww : World} {Bg Bt Bs Bd n : Nat} {y z : Nat → Key} {sh F : Nat → Nat} (W : Wd w ww Bg Bt Bs Bd n y z sh F) : Wd w ww.drew Bg Bt Bs Bd n y z sh F :=
  ⟨W.side, W.ls, W.ld, W.ne, W.src.drew, W.dst.drew, W.shr.drew, W.cnt.drew, W.only.drew, W.size⟩
theorem Wd.drewN {w ww : World} {Bg Bt Bs Bd n : Nat} {y z : Nat → Key} {sh F : Nat → Nat} (W : Wd w ww Bg Bt Bs Bd n y z sh F) (m : Nat) : Wd w (ww.drewN m) Bg Bt Bs Bd n y z sh F :=
  ⟨W.side, W.ls, W.ld, W.ne, W.src.drewN m, W.dst.drewN m, W.shr.drewN m, W.cnt.drewN m, W.only.drewN m, W.size⟩
theorem Wd.swap {w ww : World} {Bg Bt Bs Bd n : Nat} {y z : Nat → Key} {sh F : Nat → Nat} (W : Wd w ww Bg Bt Bs Bd n y z sh F) : Wd w ww Bg Bt Bd Bs n z y sh F :=
  ⟨by have := W.side; omega, W.ld, W.ls, Ne.symm W.ne, W.dst, W.src, W.shr, W.cnt, W.only, W.size⟩
theorem Wd.congr {w ww : World} {Bg Bt Bs Bd n : Nat} {y z : Nat → Key} {sh F G : Nat → Nat} (W : Wd w ww Bg Bt Bs Bd n y z sh F) (e : ∀ m, m < 2048 → F m = G m) : Wd w ww Bg Bt Bs Bd n y z sh G :=
  ⟨W.side, W.ls, W.ld, W.ne, W.src, W.dst, W.shr, W.cnt.congr e, W.only, W.size⟩
theorem Only.new {S : Nat → Prop} {w ww : World} (h : Only S w ww) {b o : Nat} (hb : w.heap.size ≤ b) (u : Value) : Only S w (ww.setCell ⟨b, o, none⟩ u) :=
  ⟨h.os, h.tape, h.output, by simpa [World.setCell] using h.size, fun k hk hn => (Below.heap_setCell _ _ _ _ (by show k ≠ b; omega)).trans (h.block k hk hn)⟩
theorem Wd.setCnt {w ww : World} {Bg Bt Bs Bd n : Nat} {y z : Nat → Key} {sh F : Nat → Nat} (W : Wd w ww Bg Bt Bs Bd n y z sh F) {m : Nat} (hm : m < 2048) (e : Nat) {v : Int} (hv : v = (e : Nat)) :
    Wd w (ww.setCell ⟨w.heap.size + 1, m, none⟩ (.int .u32 v)) Bg Bt Bs Bd n y z sh (upd F m e) :=
  have ls := W.ls
  have ld := W.ld
  ⟨W.side, W.ls, W.ld, W.ne, W.src.other (by omega) _, W.dst.other (by omega) _, W.shr.other (by omega) _, W.cnt.set hm e hv, W.only.new (by omega) _, by simp [World.setCell, W.size]⟩
theorem Wd.setDst {w ww : World} {Bg Bt Bs Bd n : Nat} {y z : Nat → Key} {sh F : Nat → Nat} (W : Wd w ww Bg Bt Bs Bd n y z sh F) {i : Nat} (hi : i < n) (k : Key) {v q : Int} (hv : v = (k.1 : Nat)) (hq : q = k.2) :
    Wd w ((ww.setCell ⟨Bd, i * 2, none⟩ (.int .u64 v)).setCell ⟨Bd, i * 2 + 1, none⟩ (.int .i64 q)) Bg Bt Bs Bd n y (upd z i k) sh F :=
  have ls := W.ls
  have ld := W.ld
  have ne := W.ne
  have sd : Bd = Bg ∨ Bd = Bt := by have := W.side; omega
  ⟨W.side, W.ls, W.ld, W.ne, (W.src.other (Ne.symm ne) _).other (Ne.symm ne) _, W.dst.set hi k hv hq, (W.shr.other (by omega) _).other (by omega) _, (W.cnt.other (by omega) _).other (by omega) _, (W.only.setCell sd _).setCell sd _, by simp [World.setCell, W.size]⟩
theorem Wd.start {w ww : World} {Bg Bt n pl : Nat} {x t0 : Nat → Key} {sh : Nat → Nat} (C : Cnt w ww x n sh pl 0) (hBg : Bg < w.heap.size) (hBt : Bt < w.heap.size) (hne : Bg ≠ Bt) (R : Row w Bg n x) (T : Row w Bt n t0) : Wd w ww Bg Bt Bg Bt n x t0 sh (cnts (dg x sh) n pl 0) :=
  ⟨.inl ⟨rfl, rfl⟩, hBg, hBt, hne, R.below hBg C.bel, T.below hBt C.bel, C.shr, C.cnt, Only.of_grown C.bel, C.size⟩

theorem al75 : Try.prog.arrayLen 75 = 8 := by kernel_rfl
theorem slice75 (S pl : Nat) (h : pl ≤ 8) (w : World) : (Instr.sliceAt 75 (.pointer (some ⟨S, 0, none⟩)) none (some (.int .i64 (pl : Int))) none).run Try.prog w = .ok (.slice (some ⟨S, 0, none⟩) pl 8) w := by
  rw [run_sliceAt_array_h (P := Try.prog) w 75 ⟨S, 0, none⟩ (by kernel_rfl) .i64 (pl : Int) (by omega) (by rw [al75]; omega)]
  go_simp

theorem byt_int (s q : Nat) : (q : Int) / 2 ^ s % 256 = ((byt s q : Nat) : Int) := by unfold byt; simp
theorem byt_zero {s q : Nat} (h : ((q : Int) / 2 ^ s % 256 != 0) = false) : byt s q = 0 := by
  rw [byt_int] at h
  simpa using h
theorem sm_and (x : Nat → Key) (k : Nat) (h : (x k).1 < 18446744073709551616) : bits .and .u64 ((sm x k : Nat) : Int) (((x k).1 : Nat) : Int) = ((sm x (k + 1) : Nat) : Int) :=
  bits_and_u64_nat _ _ (sm_lt x k) h
theorem df_or (x : Nat → Key) (k : Nat) (hx : ∀ j, j < k → (x j).1 < 18446744073709551616) (h : (x k).1 < 18446744073709551616) : bits .or .u64 ((df x k : Nat) : Int) (((x k).1 : Nat) : Int) = ((df x (k + 1) : Nat) : Int) :=
  bits_or_u64_nat _ _ (df_lt hx) h

end Go.Proofs.Qxb6603421a
