import Derived.Test.Qxb6603421aW1
namespace Go.Proofs.Qxb6603421a
open Go.RowKit
set_option linter.unusedVariables false

theorem info57 : (Try.prog.info? 57).map (fun i => (i.zero, i.size, i.bytes)) = some (some (.agg #[.int .u64 0, .int .i64 0]), 2, 16) := by kernel_rfl
theorem info60 : (Try.prog.info? 60).map (fun i => (i.zero, i.size, i.bytes)) = some (some (.agg #[.int .u64 0, .int .i64 0]), 2, 16) := by kernel_rfl

theorem made_two (y z : Value) (n j : Nat) (hj : j < n) : (madeCells #[y, z] (n * 2))[j * 2]? = some y ∧ (madeCells #[y, z] (n * 2))[j * 2 + 1]? = some z := by
  have h1 : j * 2 < n * 2 := by omega
  have h2 : j * 2 + 1 < n * 2 := by omega
  have e1 : j * 2 % 2 = 0 := by omega
  have e2 : (j * 2 + 1) % 2 = 1 := by omega
  constructor
  · simp [madeCells, h1, e1]
  · simp [madeCells, h2, e2]

/-- 'make([]T, n)' at a row of pairs. -/
theorem make_pairs {t e : TypeId} (ht : Try.prog.underlying t = some (.slice e)) (hi : (Try.prog.info? e).map (fun i => (i.zero, i.size, i.bytes)) = some (some (.agg #[.int .u64 0, .int .i64 0]), 2, 16)) (n : Nat) (hn : n ≤ 65536) :
    ∃ C : Array Value, (∀ j, j < n → C[j * 2]? = some (.int .u64 0) ∧ C[j * 2 + 1]? = some (.int .i64 0)) ∧
      ∀ w, (Instr.makeSlice t (.int .i64 (n : Int)) (.int .i64 (n : Int))).run Try.prog w = .ok (.slice (some ⟨w.heap.size, 0, none⟩) n n) (w.alloc (.cells C e)) := by
  obtain ⟨i, hi', hz, hs, hb⟩ := info_parts hi
  refine ⟨madeCells #[.int .u64 0, .int .i64 0] (n * 2), fun j hj => made_two _ _ n j hj, fun w => ?_⟩
  have hr := run_make (P := Try.prog) w t e i _ ht hi' hz .i64 .i64 n n (by omega) (by omega) (by rw [hb]; omega) (by omega)
  simpa [hs, Value.cells] using hr

/-- The first k keys are laid, the others are zero. -/
def pre (k : Nat) (f : Nat → Key) : Nat → Key := fun x => if x < k then f x else (0, 0)
theorem pre_next (k : Nat) (f : Nat → Key) : upd (pre k f) k (f k) = pre (k + 1) f := by
  funext x
  unfold upd pre
  by_cases h1 : x = k
  · subst h1; simp
  · by_cases h2 : x < k
    · simp [h1, h2, Nat.lt_succ_of_lt h2]
    · have h3 : ¬ x < k + 1 := by omega
      simp [h1, h2, h3]
theorem row_start (w : World) (C : Array Value) (e : TypeId) (n : Nat) (f : Nat → Key) (hC : ∀ j, j < n → C[j * 2]? = some (.int .u64 0) ∧ C[j * 2 + 1]? = some (.int .i64 0)) : Row (w.alloc (.cells C e)) w.heap.size n (pre 0 f) where
  ws := fun j hj => by rw [World.cell?_alloc_at _ _ _ _ rfl, (hC j hj).1]; simp [pre]
  ats := fun j hj => by rw [World.cell?_alloc_at _ _ _ _ rfl, (hC j hj).2]; simp [pre]
  free := fun o => by go_simp

/-- The keys that came in: at block b from off on. -/
structure Src (w : World) (b off n : Nat) (x : Nat → Key) : Prop where
  ws : ∀ j, j < n → w.cell? ⟨b, off + j * 2, none⟩ = some (.int .u64 ((x j).1 : Nat))
  ats : ∀ j, j < n → w.cell? ⟨b, off + j * 2 + 1, none⟩ = some (.int .i64 (x j).2)
  lt : b < w.heap.size
theorem Src.below {w w' : World} {b off n : Nat} {x : Nat → Key} (R : Src w b off n x) (hw : Below w.heap.size w w') : Src w' b off n x :=
  ⟨fun j hj => (hw.cell (p := ⟨b, off + j * 2, none⟩) R.lt).trans (R.ws j hj), fun j hj => (hw.cell (p := ⟨b, off + j * 2 + 1, none⟩) R.lt).trans (R.ats j hj), Nat.lt_of_lt_of_le R.lt hw.size⟩

set_option maxHeartbeats 1000000 in
theorem to_zero (ao : Option Addr) (c : Nat) (w : World) :
    Calls Try.prog 11 #[.slice ao 0 c] w fun e w' => e = .returned (.slice (some ⟨w.heap.size, 0, none⟩) 0 0) ∧ Below w.heap.size w w' ∧ w.heap.size < w'.heap.size ∧ ∀ x, Row w' w.heap.size 0 x := by
  obtain ⟨C, hC, hmk⟩ := make_pairs Try.underlying24 info57 0 (by omega)
  have hmk0 : ∀ w, (Instr.makeSlice 24 (.int .i64 0) (.int .i64 0)).run Try.prog w = .ok (.slice (some ⟨w.heap.size, 0, none⟩) 0 0) (w.alloc (.cells C 57)) := hmk
  clear hmk hC
  go_enter Try.func11, Try.ntmps11
  go_wp2_with fail
  go_loopg [4] 0 (fun g i ww => i = .int .i64 0 ∧ ww = w.alloc (.cells C 57))
  case atStart => exact ⟨rfl, rfl⟩
  case round =>
    obtain ⟨rfl, rfl⟩ := hrel
    go_wp2_with fail
    go_ret
    exact ⟨rfl, (Below.refl _ _).alloc (Nat.le_refl _) _, by simp, fun x => ⟨fun j hj => by omega, fun j hj => by omega, fun o => by go_simp⟩⟩
end Go.Proofs.Qxb6603421a
