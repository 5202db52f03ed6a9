import Derived.Test.Qxb6602356aW5
import Derived.Deep.QuietTactic
import Derived.BigQuiet
namespace Go.Proofs.Qxb6602356a
open Go.RowKit Hx
set_option linter.unusedVariables false

/-- Block b holds, from its head on, the numbers f 0 .. f (n-1). -/
structure Row (w : World) (b : Nat) (k : IntKind) (n : Nat) (f : Nat → Int) : Prop where
  cell : ∀ j, j < n → w.cell? ⟨b, j, none⟩ = some (.int k (f j))
  free : ∀ o, w.frozen? ⟨b, o, none⟩ = false
theorem Row.drewN {w : World} {b : Nat} {k : IntKind} {n : Nat} {f : Nat → Int} (R : Row w b k n f) (m : Nat) : Row (w.drewN m) b k n f := ⟨R.cell, R.free⟩
theorem Row.set {w : World} {b : Nat} {k : IntKind} {n : Nat} {f : Nat → Int} (R : Row w b k n f) {i : Nat} (hi : i < n) (v : Int) : Row (w.setCell ⟨b, i, none⟩ (.int k v)) b k n (upd f i v) where
  cell := fun j hj => by
    by_cases hji : j = i
    · subst hji; rw [upd_same]; exact cell_set_same (R.cell j hj)
    · rw [upd_ne _ _ hji, cell_set_ne (.inr (by omega))]; exact R.cell j hj
  free := fun o => by rw [frozen_set]; exact R.free o
theorem Row.other {w : World} {b : Nat} {k : IntKind} {n : Nat} {f : Nat → Int} (R : Row w b k n f) {b' o : Nat} (hb : b' ≠ b) (u : Value) : Row (w.setCell ⟨b', o, none⟩ u) b k n f where
  cell := fun j hj => by rw [cell_set_ne (.inl hb)]; exact R.cell j hj
  free := fun o => by rw [frozen_set]; exact R.free o
theorem Row.congr {w : World} {b : Nat} {k : IntKind} {n : Nat} {f g : Nat → Int} (R : Row w b k n f) (e : ∀ j, j < n → f j = g j) : Row w b k n g := ⟨fun j hj => by rw [← e j hj]; exact R.cell j hj, R.free⟩
theorem Row.off {w : World} {b : Nat} {k : IntKind} {n : Nat} {f : Nat → Int} (R : Row w b k n f) : ∀ j, j < n → w.cell? ⟨b, 0 + j, none⟩ = some (.int k (f j)) := fun j hj => by rw [Nat.zero_add]; exact R.cell j hj

theorem state_start (w : World) (C D : Array Value) (n : Nat) (h p : Nat → Int) (hC : ∀ j, j < n → C[j]? = some (.int .u64 0)) (hD : ∀ j, j < n → D[j]? = some (.int .i64 0)) :
    Row ((w.alloc (.cells C 24)).alloc (.cells D 3)) w.heap.size .u64 n (pre 0 h) ∧ Row ((w.alloc (.cells C 24)).alloc (.cells D 3)) (w.heap.size + 1) .i64 n (pre 0 p) := by
  refine ⟨⟨fun j hj => ?_, fun o => by go_simp⟩, ⟨fun j hj => ?_, fun o => by go_simp⟩⟩
  · rw [World.cell?_alloc_past _ _ _ (by simp), World.cell?_alloc_at _ _ _ _ rfl, hC j hj, pre_zero]
  · rw [World.cell?_alloc_at _ _ _ _ (by simp), hD j hj, pre_zero]

set_option maxHeartbeats 1000000 in
theorem state_any (X B n cap : Nat) (h p : Nat → Int) (count tch : Int) (hn : 1 ≤ n) (hn2 : n ≤ 65536) (w : World) (hX : X < w.heap.size) (hB : B < w.heap.size) (T : Tab w X B n cap h p count tch) :
    Calls Try.prog 12 #[.pointer (some ⟨X, 0, none⟩)] w fun e w' =>
      e = .returned (.tuple #[.slice (some ⟨w.heap.size, 0, none⟩) n n, .slice (some ⟨w.heap.size + 1, 0, none⟩) n n, .int .i64 count, .int .u64 tch]) ∧
      Row w' w.heap.size .u64 n h ∧ Row w' (w.heap.size + 1) .i64 n p ∧ Below w.heap.size w w' ∧ w.heap.size + 1 < w'.heap.size := by
  have s0 := T.slots
  have HT := (show Hid _ from T)
  clear T
  obtain ⟨C, hC, hmk⟩ := make_ones Try.underlying22 info24 rfl (by decide) n hn2
  obtain ⟨D, hD, hmk2⟩ := make_ones Try.underlying23 info3 rfl (by decide) n hn2
  have HC := (show Hid _ from hC)
  have HD := (show Hid _ from hD)
  clear hC hD
  have s1 : (w.alloc (.cells C 24)).cell? ⟨X, 0, none⟩ = some (.slice (some ⟨B, 0, none⟩) n cap) := by rw [World.cell?_alloc_past _ _ _ hX]; exact s0
  have s2 : ((w.alloc (.cells C 24)).alloc (.cells D 3)).cell? ⟨X, 0, none⟩ = some (.slice (some ⟨B, 0, none⟩) n cap) := by rw [World.cell?_alloc_past _ _ _ (by simp; omega)]; exact s1
  go_enter Try.func12, Try.ntmps12
  go_wp2_with fail
  clear s1 s2
  go_loopg [8] n (fun g i ww => ∃ k : Nat, k + g = n ∧ i = .int .i64 k ∧ Row ww w.heap.size .u64 n (pre k h) ∧ Row ww (w.heap.size + 1) .i64 n (pre k p) ∧ Below w.heap.size w ww ∧ w.heap.size + 1 < ww.heap.size)
  case atStart => exact ⟨0, by omega, rfl, (state_start w C D n h p HC.out HD.out).1, (state_start w C D n h p HC.out HD.out).2, (((Below.refl _ _).alloc (Nat.le_refl _) _).alloc (by simp) _), by simp⟩
  case round =>
    obtain ⟨k, hk, rfl, hR1, hR2, hW, hz⟩ := hrel
    have s1 := (hW.cell (p := ⟨X, 0, none⟩) hX).trans s0
    have t1 := (hW.cell (p := ⟨X, 1, none⟩) hX).trans HT.out.cnt
    have t2 := (hW.cell (p := ⟨X, 2, none⟩) hX).trans HT.out.tch
    by_cases hlt : k < n
    · have c1 := (hW.cell (p := ⟨B, k * 2, none⟩) hB).trans (HT.out.hs k hlt)
      have c2 := (hW.cell (p := ⟨B, k * 2 + 1, none⟩) hB).trans (HT.out.ps k hlt)
      have c3 := hR1.cell k hlt
      have f3 := hR1.free k
      have c4 := hR2.cell k hlt
      have f4 := hR2.free k
      obtain ⟨v, hv⟩ : ∃ v, v = h k := ⟨_, rfl⟩
      obtain ⟨q, hqq⟩ : ∃ q, q = p k := ⟨_, rfl⟩
      rw [← hv] at c1
      rw [← hqq] at c2
      have HR1 := (show Hid _ from hR1)
      have HR2 := (show Hid _ from hR2)
      have HW2 := (show Hid _ from hW)
      have HV := (show Hid _ from hv)
      have HQ := (show Hid _ from hqq)
      clear hR1 hR2 hW hv hqq t1 t2
      go_wp2_with fail
      go_roundg (gk - 1)
      case measure => omega
      case rel =>
        have r1 := (HR1.out.set hlt v).other (b' := w.heap.size + 1) (o := k) (by omega) (.int .i64 q)
        have r2 := (HR2.out.other (b' := w.heap.size) (o := k) (by omega) (.int .u64 v)).set hlt q
        rw [HV.out, pre_next, ← HV.out] at r1
        rw [HQ.out, pre_next, ← HQ.out] at r2
        exact ⟨k + 1, by omega, by go_num, r1, r2, (HW2.out.setCell (by simp) _).setCell (by simp) _, by simpa [World.setCell] using hz⟩
    · have HR1 := (show Hid _ from hR1)
      have HR2 := (show Hid _ from hR2)
      have HW2 := (show Hid _ from hW)
      clear hR1 hR2 hW
      go_wp2_with fail
      go_quiet (fail)
      go_wp2_with fail
      refine bodyPost_ret (v := .tuple #[.slice (some ⟨w.heap.size, 0, none⟩) n n, .slice (some ⟨w.heap.size + 1, 0, none⟩) n n, .int .i64 count, .int .u64 tch]) (by simp [results, Try.results12, go_sem]) rfl ⟨rfl, ?_, ?_, ?_, ?_⟩
      · exact (HR1.out.congr (fun j hj => by simp [pre, show j < k by omega])).drewN _
      · exact (HR2.out.congr (fun j hj => by simp [pre, show j < k by omega])).drewN _
      · exact ⟨HW2.out.os, HW2.out.tape, HW2.out.output, HW2.out.size, HW2.out.block⟩
      · exact hz
end Go.Proofs.Qxb6602356a
