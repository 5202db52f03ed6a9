import Derived.Test.Qxb6602356aW4
import Derived.StillTailTactics
namespace Go.Proofs.Qxb6602356a
open Go.RowKit Hx
set_option linter.unusedVariables false

theorem info52 : (Try.prog.info? 52).map (fun i => (i.zero, i.size, i.bytes)) = some (some (.agg #[.int .u64 0, .int .i64 0]), 2, 16) := by kernel_rfl
theorem info37 : (Try.prog.info? 37).map (fun i => (i.zero, i.size, i.bytes)) = some (some (.agg #[.int .u64 0, .int .i64 0]), 2, 16) := by kernel_rfl
theorem info24 : (Try.prog.info? 24).map (fun i => (i.zero, i.size, i.bytes)) = some (some (.int .u64 0), 1, 8) := by kernel_rfl
theorem info3 : (Try.prog.info? 3).map (fun i => (i.zero, i.size, i.bytes)) = some (some (.int .i64 0), 1, 8) := by kernel_rfl
theorem info4 : (Try.prog.info? 4).map (fun i => (i.zero, i.size, i.bytes)) = some (some (.bool false), 1, 1) := by kernel_rfl

theorem made_one (z : Value) (n i : Nat) (hi : i < n) : (madeCells #[z] n)[i]? = some z := by simp [madeCells, hi, Nat.mod_one]
theorem made_two (y z : Value) (n j : Nat) (hj : j < n) : (madeCells #[y, z] (n * 2))[j * 2]? = some y ∧ (madeCells #[y, z] (n * 2))[j * 2 + 1]? = some z := by
  have h1 : j * 2 < n * 2 := by omega
  have h2 : j * 2 + 1 < n * 2 := by omega
  have e1 : j * 2 % 2 = 0 := by omega
  have e2 : (j * 2 + 1) % 2 = 1 := by omega
  constructor
  · simp [madeCells, h1, e1]
  · simp [madeCells, h2, e2]

/-- 'make([]T, n)' at a row of pairs. -/
theorem make_pairs {t e : TypeId} (ht : Try.prog.underlying t = some (.slice e)) (hi : (Try.prog.info? e).map (fun i => (i.zero, i.size, i.bytes)) = some (some (.agg #[.int .u64 0, .int .i64 0]), 2, 16)) (n : Nat) (hn : n ≤ 65536) :
    ∃ C : Array Value, (∀ j, j < n → C[j * 2]? = some (.int .u64 0) ∧ C[j * 2 + 1]? = some (.int .i64 0)) ∧
      ∀ w, (Instr.makeSlice t (.int .i64 (n : Int)) (.int .i64 (n : Int))).run Try.prog w = .ok (.slice (some ⟨w.heap.size, 0, none⟩) n n) (w.alloc (.cells C e)) := by
  obtain ⟨i, hi', hz, hs, hb⟩ := info_parts hi
  refine ⟨madeCells #[.int .u64 0, .int .i64 0] (n * 2), fun j hj => made_two _ _ n j hj, fun w => ?_⟩
  have hr := run_make (P := Try.prog) w t e i _ ht hi' hz .i64 .i64 n n (by omega) (by omega) (by rw [hb]; omega) (by omega)
  simpa [hs, Value.cells] using hr

/-- 'make([]T, n)' at a row of single cells. -/
theorem make_ones {t e : TypeId} {z : Value} {bytes : Nat} (ht : Try.prog.underlying t = some (.slice e)) (hi : (Try.prog.info? e).map (fun i => (i.zero, i.size, i.bytes)) = some (some z, 1, bytes)) (hz1 : z.cells = #[z]) (hbb : bytes ≤ 8) (n : Nat) (hn : n ≤ 65536) :
    ∃ C : Array Value, (∀ j, j < n → C[j]? = some z) ∧
      ∀ w, (Instr.makeSlice t (.int .i64 (n : Int)) (.int .i64 (n : Int))).run Try.prog w = .ok (.slice (some ⟨w.heap.size, 0, none⟩) n n) (w.alloc (.cells C e)) := by
  obtain ⟨i, hi', hz, hs, hb⟩ := info_parts hi
  refine ⟨madeCells #[z] n, fun j hj => made_one _ n j hj, fun w => ?_⟩
  have hr := run_make (P := Try.prog) w t e i _ ht hi' hz .i64 .i64 n n (by omega) (by omega) (by
    rw [hb]
    have : (bytes : Int) * (n : Int) ≤ 8 * 65536 := Int.mul_le_mul (by omega) (by omega) (by omega) (by omega)
    omega) (by omega)
  simpa [hs, hz1] using hr

def pre (k : Nat) (f : Nat → Int) : Nat → Int := fun x => if x < k then f x else 0
theorem pre_next (k : Nat) (f : Nat → Int) : upd (pre k f) k (f k) = pre (k + 1) f := by
  funext x
  unfold upd pre
  by_cases h1 : x = k
  · subst h1; simp
  · by_cases h2 : x < k
    · simp [h1, h2, Nat.lt_succ_of_lt h2]
    · have h3 : ¬ x < k + 1 := by omega
      simp [h1, h2, h3]
theorem pre_zero (f : Nat → Int) : pre 0 f = fun _ => 0 := by funext x; simp [pre]

theorem Tab.congr {w : World} {X B n cap : Nat} {h p h' p' : Nat → Int} {count tch : Int} (T : Tab w X B n cap h p count tch) (e1 : ∀ j, j < n → h j = h' j) (e2 : ∀ j, j < n → p j = p' j) : Tab w X B n cap h' p' count tch :=
  ⟨T.ne, T.slots, T.cnt, T.tch, T.fx, T.fb, fun j hj => by rw [← e1 j hj]; exact T.hs j hj, fun j hj => by rw [← e2 j hj]; exact T.ps j hj⟩

theorem tab_start (w : World) (C : Array Value) (n : Nat) (h p : Nat → Int) (count tch : Int) (hC : ∀ j, j < n → C[j * 2]? = some (.int .u64 0) ∧ C[j * 2 + 1]? = some (.int .i64 0)) :
    Tab ((w.alloc (.cells #[.slice (some ⟨w.heap.size + 1, 0, none⟩) n n, .int .i64 count, .int .u64 tch] 48)).alloc (.cells C 52)) w.heap.size (w.heap.size + 1) n n (pre 0 h) (pre 0 p) count tch where
  ne := by omega
  slots := by go_simp
  cnt := by go_simp
  tch := by go_simp
  fx := fun o => by go_simp
  fb := fun o => by go_simp
  hs := fun j hj => by
    rw [World.cell?_alloc_at _ _ _ _ (by simp), (hC j hj).1, pre_zero]
  ps := fun j hj => by
    rw [World.cell?_alloc_at _ _ _ _ (by simp), (hC j hj).2, pre_zero]

set_option maxHeartbeats 1000000 in
theorem make_any (b off b2 off2 n c c2 : Nat) (h p : Nat → Int) (count tch : Int) (hn : 1 ≤ n) (hn2 : n ≤ 65536) (w : World) (hb : b < w.heap.size) (hb2 : b2 < w.heap.size)
    (hH : ∀ j, j < n → w.cell? ⟨b, off + j, none⟩ = some (.int .u64 (h j))) (hP : ∀ j, j < n → w.cell? ⟨b2, off2 + j, none⟩ = some (.int .i64 (p j))) :
    Calls Try.prog 10 #[.slice (some ⟨b, off, none⟩) n c, .slice (some ⟨b2, off2, none⟩) n c2, .int .i64 count, .int .u64 tch] w fun e w' =>
      e = .returned (.pointer (some ⟨w.heap.size, 0, none⟩)) ∧ Tab w' w.heap.size (w.heap.size + 1) n n h p count tch ∧ Below w.heap.size w w' := by
  have HH := (show Hid _ from hH)
  have HP := (show Hid _ from hP)
  clear hH hP
  obtain ⟨C, hC, hmk⟩ := make_pairs Try.underlying46 info52 n hn2
  have HC := (show Hid _ from hC)
  clear hC
  go_enter Try.func10, Try.ntmps10
  go_wp2_with fail
  go_loopg [10] n (fun g i ww => ∃ k : Nat, k + g = n ∧ i = .int .i64 k ∧ Tab ww w.heap.size (w.heap.size + 1) n n (pre k h) (pre k p) count tch ∧ Below w.heap.size w ww)
  case atStart => exact ⟨0, by omega, rfl, tab_start w C n h p count tch HC.out, (((Below.refl _ _).alloc (Nat.le_refl _) _).alloc (by simp) _)⟩
  case round =>
    obtain ⟨k, hk, rfl, hT, hW⟩ := hrel
    by_cases hlt : k < n
    · have s1 := hT.slots
      have c3 := hT.hs k hlt
      have c4 := hT.ps k hlt
      have f1 := hT.fb (k * 2)
      have f2 := hT.fb (k * 2 + 1)
      have c1 := (hW.cell (p := ⟨b, off + k, none⟩) hb).trans (HH.out k hlt)
      have c2' := (hW.cell (p := ⟨b2, off2 + k, none⟩) hb2).trans (HP.out k hlt)
      have HT2 := (show Hid _ from hT)
      have HW2 := (show Hid _ from hW)
      clear hT hW
      obtain ⟨v, hv⟩ : ∃ v, v = h k := ⟨_, rfl⟩
      obtain ⟨q, hqq⟩ : ∃ q, q = p k := ⟨_, rfl⟩
      rw [← hv] at c1
      rw [← hqq] at c2'
      have HV := (show Hid _ from hv)
      have HQ := (show Hid _ from hqq)
      clear hv hqq
      go_wp2_with fail
      go_region
      go_wp2_with fail
      go_roundg (gk - 1)
      case measure => omega
      case rel =>
        refine ⟨k + 1, by omega, by go_num, ?_, (((HW2.out.setCell (by simp) _).setCell (by simp) _).drew)⟩
        have T2 := (HT2.out.set hlt v q).drew
        rw [HV.out, HQ.out, pre_next, pre_next, ← HV.out, ← HQ.out] at T2
        exact T2
    · go_wp2_with fail
      go_ret
      exact ⟨rfl, hT.congr (fun j hj => by simp [pre, show j < k by omega]) (fun j hj => by simp [pre, show j < k by omega]), hW⟩
end Go.Proofs.Qxb6602356a
