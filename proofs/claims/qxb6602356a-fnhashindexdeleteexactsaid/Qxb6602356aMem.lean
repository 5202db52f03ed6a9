import Derived.Test.Qxb6602356aW3
import Derived.Deep.Draws
namespace Go.Proofs.Qxb6602356a
open Go.RowKit Hx
set_option linter.unusedVariables false

/-- w' is w but for the blocks of S (and for new ones, and for draws). -/
structure Only (S : Nat → Prop) (w w' : World) : Prop where
  os : w'.os = w.os
  tape : w'.tape = w.tape
  output : w'.output = w.output
  size : w.heap.size ≤ w'.heap.size
  block : ∀ k, k < w.heap.size → ¬ S k → w'.heap[k]? = w.heap[k]?

theorem Only.refl (S : Nat → Prop) (w : World) : Only S w w := ⟨rfl, rfl, rfl, Nat.le_refl _, fun _ _ _ => rfl⟩
theorem Only.trans {S : Nat → Prop} {a b c : World} (h : Only S a b) (k : Only S b c) : Only S a c :=
  ⟨k.os.trans h.os, k.tape.trans h.tape, k.output.trans h.output, Nat.le_trans h.size k.size, fun i hi hn => (k.block i (Nat.lt_of_lt_of_le hi h.size) hn).trans (h.block i hi hn)⟩
theorem Only.mono {S T : Nat → Prop} {w w' : World} (h : Only S w w') (hs : ∀ k, S k → T k) : Only T w w' := ⟨h.os, h.tape, h.output, h.size, fun k hk hn => h.block k hk (fun hh => hn (hs k hh))⟩
theorem Only.drew {S : Nat → Prop} {a w : World} (h : Only S a w) : Only S a w.drew := ⟨h.os, h.tape, h.output, h.size, h.block⟩
theorem Only.drewN {S : Nat → Prop} {a w : World} (h : Only S a w) (n : Nat) : Only S a (w.drewN n) := ⟨h.os, h.tape, h.output, h.size, h.block⟩
theorem Only.setCell {S : Nat → Prop} {a w : World} (h : Only S a w) {p : Addr} (hp : S p.block) (u : Value) : Only S a (w.setCell p u) :=
  h.trans ⟨rfl, rfl, rfl, by simp [World.setCell], fun k hk hn => Below.heap_setCell _ _ _ _ (fun e => hn (e ▸ hp))⟩
theorem Only.alloc {S : Nat → Prop} {a w : World} (h : Only S a w) (o : Obj) : Only S a (w.alloc o) :=
  h.trans ⟨rfl, rfl, rfl, by simp, fun k hk hn => Below.heap_alloc _ _ _ hk⟩
theorem Only.cell {S : Nat → Prop} {w w' : World} (h : Only S w w') {a : Addr} {v : Value} (hc : w.cell? a = some v) (hn : ¬ S a.block) : w'.cell? a = some v :=
  (World.cell?_of_block (w := w) (h.block a.block (World.block_lt_of_cell? _ _ hc) hn)).trans hc
theorem Only.frozen {S : Nat → Prop} {w w' : World} (h : Only S w w') {a : Addr} (hk : a.block < w.heap.size) (hn : ¬ S a.block) : w'.frozen? a = w.frozen? a :=
  World.frozen?_of_block (w := w) (h.block a.block hk hn)
theorem Only.below {B : Nat} {S : Nat → Prop} {w w' : World} (h : Only S w w') (hs : ∀ k, S k → B ≤ k) (hB : B ≤ w.heap.size) : Below B w w' :=
  ⟨h.os, h.tape, h.output, h.size, fun k hk => h.block k (by omega) (fun hh => by have := hs k hh; omega)⟩
theorem Only.of_grown {w w' : World} {S : Nat → Prop} (h : Below w.heap.size w w') : Only S w w' := ⟨h.os, h.tape, h.output, h.size, fun k hk _ => h.block k hk⟩

theorem cell_set_same {w : World} {b o : Nat} {v u : Value} (h : w.cell? ⟨b, o, none⟩ = some v) : (w.setCell ⟨b, o, none⟩ u).cell? ⟨b, o, none⟩ = some u := by
  simp only [World.cell?, World.setCell, Array.getElem?_modify] at h ⊢
  cases hb : w.heap[b]? with
  | none => rw [hb] at h; simp at h
  | some ob =>
    rw [hb] at h
    cases ob <;> simp at h ⊢
    rw [Array.getElem?_setIfInBounds_self_of_lt (Array.getElem?_eq_some_iff.1 h).1]
theorem cell_set_ne {w : World} {b o b' o' : Nat} {u : Value} (hne : b ≠ b' ∨ o ≠ o') : (w.setCell ⟨b, o, none⟩ u).cell? ⟨b', o', none⟩ = w.cell? ⟨b', o', none⟩ := by
  by_cases hb : b = b'
  · subst hb
    have ho : o ≠ o' := hne.resolve_left (fun h => h rfl)
    simp only [World.cell?, World.setCell, Array.getElem?_modify]
    cases hb : w.heap[b]? with
    | none => simp
    | some ob =>
      cases ob <;> simp
      rw [Array.getElem?_setIfInBounds_ne ho]
  · simp only [World.cell?, World.setCell, Array.getElem?_modify, hb, if_false]
theorem frozen_set {w : World} {a b : Addr} {u : Value} : (w.setCell a u).frozen? b = w.frozen? b := by simp

/-- The index at block X, its slots at block B. -/
structure Tab (w : World) (X B n cap : Nat) (h p : Nat → Int) (count tch : Int) : Prop where
  ne : X ≠ B
  slots : w.cell? ⟨X, 0, none⟩ = some (.slice (some ⟨B, 0, none⟩) n cap)
  cnt : w.cell? ⟨X, 1, none⟩ = some (.int .i64 count)
  tch : w.cell? ⟨X, 2, none⟩ = some (.int .u64 tch)
  fx : ∀ o, w.frozen? ⟨X, o, none⟩ = false
  fb : ∀ o, w.frozen? ⟨B, o, none⟩ = false
  hs : ∀ j, j < n → w.cell? ⟨B, j * 2, none⟩ = some (.int .u64 (h j))
  ps : ∀ j, j < n → w.cell? ⟨B, j * 2 + 1, none⟩ = some (.int .i64 (p j))

theorem Tab.drew {w : World} {X B n cap : Nat} {h p : Nat → Int} {count tch : Int} (T : Tab w X B n cap h p count tch) : Tab w.drew X B n cap h p count tch := ⟨T.ne, T.slots, T.cnt, T.tch, T.fx, T.fb, T.hs, T.ps⟩
theorem Tab.drewN {w : World} {X B n cap : Nat} {h p : Nat → Int} {count tch : Int} (T : Tab w X B n cap h p count tch) (k : Nat) : Tab (w.drewN k) X B n cap h p count tch := ⟨T.ne, T.slots, T.cnt, T.tch, T.fx, T.fb, T.hs, T.ps⟩
/-- A slot is written. -/
theorem Tab.set {w : World} {X B n cap : Nat} {h p : Nat → Int} {count tch : Int} (T : Tab w X B n cap h p count tch) {i : Nat} (hi : i < n) (v q : Int) :
    Tab ((w.setCell ⟨B, i * 2, none⟩ (.int .u64 v)).setCell ⟨B, i * 2 + 1, none⟩ (.int .i64 q)) X B n cap (upd h i v) (upd p i q) count tch where
  ne := T.ne
  slots := by rw [cell_set_ne (.inl (Ne.symm T.ne)), cell_set_ne (.inl (Ne.symm T.ne))]; exact T.slots
  cnt := by rw [cell_set_ne (.inl (Ne.symm T.ne)), cell_set_ne (.inl (Ne.symm T.ne))]; exact T.cnt
  tch := by rw [cell_set_ne (.inl (Ne.symm T.ne)), cell_set_ne (.inl (Ne.symm T.ne))]; exact T.tch
  fx := fun o => by rw [frozen_set, frozen_set]; exact T.fx o
  fb := fun o => by rw [frozen_set, frozen_set]; exact T.fb o
  hs := fun j hj => by
    rw [cell_set_ne (.inr (by omega))]
    by_cases hji : j = i
    · subst hji
      rw [upd_same]
      exact cell_set_same (T.hs j hj)
    · rw [upd_ne _ _ hji, cell_set_ne (.inr (by omega))]; exact T.hs j hj
  ps := fun j hj => by
    by_cases hji : j = i
    · subst hji
      rw [upd_same]
      exact cell_set_same (v := .int .i64 (p j)) (by rw [cell_set_ne (.inr (by omega))]; exact T.ps j hj)
    · rw [upd_ne _ _ hji, cell_set_ne (.inr (by omega)), cell_set_ne (.inr (by omega))]; exact T.ps j hj
/-- The count is written. -/
theorem Tab.setCount {w : World} {X B n cap : Nat} {h p : Nat → Int} {count tch : Int} (T : Tab w X B n cap h p count tch) (c : Int) :
    Tab (w.setCell ⟨X, 1, none⟩ (.int .i64 c)) X B n cap h p c tch where
  ne := T.ne
  slots := by rw [cell_set_ne (.inr (by omega))]; exact T.slots
  cnt := cell_set_same T.cnt
  tch := by rw [cell_set_ne (.inr (by omega))]; exact T.tch
  fx := fun o => by rw [frozen_set]; exact T.fx o
  fb := fun o => by rw [frozen_set]; exact T.fb o
  hs := fun j hj => by rw [cell_set_ne (.inl T.ne)]; exact T.hs j hj
  ps := fun j hj => by rw [cell_set_ne (.inl T.ne)]; exact T.ps j hj
end Go.Proofs.Qxb6602356a
