import Derived.Test.Qxb6603421aRows
import Derived.Test.Qxb6603421aPlain2
import Derived.Laws.Bits128
import Derived.Laws.Bits64b
import Derived.WalkSmall
import Derived.WalkKit
import Derived.WalkSpells
import Derived.WalkLawsBesides
import Derived.ChangeOld
import Derived.Below
import Derived.Deep.Draws
import Derived.Deep.LoopGhost
import Derived.Deep.DeepCutAuto
import Derived.StillTailTactics
import Derived.Deep.QuietTactic
import Derived.BigQuiet
namespace Go.Proofs.Qxb6603421a
open Go.RowKit
set_option linter.unusedVariables false

theorem ret_bool {a b : Bool} (h : a = b) : Ending.returned (.bool a) = .returned (.bool b) := by rw [h]
theorem ret_int {k : IntKind} {a b : Int} (h : a = b) : Ending.returned (.int k a) = .returned (.int k b) := by rw [h]

/-- w' is w but for the blocks of S (and for new ones, and for draws). -/
structure Only (S : Nat → Prop) (w w' : World) : Prop where
  os : w'.os = w.os
  tape : w'.tape = w.tape
  output : w'.output = w.output
  size : w.heap.size ≤ w'.heap.size
  block : ∀ k, k < w.heap.size → ¬ S k → w'.heap[k]? = w.heap[k]?

theorem Only.refl (S : Nat → Prop) (w : World) : Only S w w := ⟨rfl, rfl, rfl, Nat.le_refl _, fun _ _ _ => rfl⟩
theorem Only.trans {S : Nat → Prop} {a b c : World} (h : Only S a b) (k : Only S b c) : Only S a c :=
  ⟨k.os.trans h.os, k.tape.trans h.tape, k.output.trans h.output, Nat.le_trans h.size k.size, fun i hi hn => (k.block i (Nat.lt_of_lt_of_le hi h.size) hn).trans (h.block i hi hn)⟩
theorem Only.mono {S T : Nat → Prop} {w w' : World} (h : Only S w w') (hs : ∀ k, S k → T k) : Only T w w' := ⟨h.os, h.tape, h.output, h.size, fun k hk hn => h.block k hk (fun hh => hn (hs k hh))⟩
theorem Only.drew {S : Nat → Prop} {a w : World} (h : Only S a w) : Only S a w.drew := ⟨h.os, h.tape, h.output, h.size, h.block⟩
theorem Only.drewN {S : Nat → Prop} {a w : World} (h : Only S a w) (n : Nat) : Only S a (w.drewN n) := ⟨h.os, h.tape, h.output, h.size, h.block⟩
theorem Only.setCell {S : Nat → Prop} {a w : World} (h : Only S a w) {p : Addr} (hp : S p.block) (u : Value) : Only S a (w.setCell p u) :=
  h.trans ⟨rfl, rfl, rfl, by simp [World.setCell], fun k hk hn => Below.heap_setCell _ _ _ _ (fun e => hn (e ▸ hp))⟩
theorem Only.alloc {S : Nat → Prop} {a w : World} (h : Only S a w) (o : Obj) : Only S a (w.alloc o) :=
  h.trans ⟨rfl, rfl, rfl, by simp, fun k hk hn => Below.heap_alloc _ _ _ hk⟩
theorem Only.cell {S : Nat → Prop} {w w' : World} (h : Only S w w') {a : Addr} {v : Value} (hc : w.cell? a = some v) (hn : ¬ S a.block) : w'.cell? a = some v :=
  (World.cell?_of_block (w := w) (h.block a.block (World.block_lt_of_cell? _ _ hc) hn)).trans hc
theorem Only.frozen {S : Nat → Prop} {w w' : World} (h : Only S w w') {a : Addr} (hk : a.block < w.heap.size) (hn : ¬ S a.block) : w'.frozen? a = w.frozen? a :=
  World.frozen?_of_block (w := w) (h.block a.block hk hn)
theorem Only.below {B : Nat} {S : Nat → Prop} {w w' : World} (h : Only S w w') (hs : ∀ k, S k → B ≤ k) (hB : B ≤ w.heap.size) : Below B w w' :=
  ⟨h.os, h.tape, h.output, h.size, fun k hk => h.block k (by omega) (fun hh => by have := hs k hh; omega)⟩
theorem Only.of_grown {w w' : World} {S : Nat → Prop} (h : Below w.heap.size w w') : Only S w w' := ⟨h.os, h.tape, h.output, h.size, fun k hk _ => h.block k hk⟩

theorem cell_set_same {w : World} {b o : Nat} {v u : Value} (h : w.cell? ⟨b, o, none⟩ = some v) : (w.setCell ⟨b, o, none⟩ u).cell? ⟨b, o, none⟩ = some u := by
  simp only [World.cell?, World.setCell, Array.getElem?_modify] at h ⊢
  cases hb : w.heap[b]? with
  | none => rw [hb] at h; simp at h
  | some ob =>
    rw [hb] at h
    cases ob <;> simp at h ⊢
    rw [Array.getElem?_setIfInBounds_self_of_lt (Array.getElem?_eq_some_iff.1 h).1]
theorem cell_set_ne {w : World} {b o b' o' : Nat} {u : Value} (hne : b ≠ b' ∨ o ≠ o') : (w.setCell ⟨b, o, none⟩ u).cell? ⟨b', o', none⟩ = w.cell? ⟨b', o', none⟩ := by
  by_cases hb : b = b'
  · subst hb
    have ho : o ≠ o' := hne.resolve_left (fun h => h rfl)
    simp only [World.cell?, World.setCell, Array.getElem?_modify]
    cases hb : w.heap[b]? with
    | none => simp
    | some ob =>
      cases ob <;> simp
      rw [Array.getElem?_setIfInBounds_ne ho]
  · simp only [World.cell?, World.setCell, Array.getElem?_modify, hb, if_false]
theorem frozen_set {w : World} {a b : Addr} {u : Value} : (w.setCell a u).frozen? b = w.frozen? b := by simp

/-- Block B holds, from its head on, the keys x 0 .. x (n-1). -/
structure Row (w : World) (B n : Nat) (x : Nat → Key) : Prop where
  ws : ∀ j, j < n → w.cell? ⟨B, j * 2, none⟩ = some (.int .u64 ((x j).1 : Nat))
  ats : ∀ j, j < n → w.cell? ⟨B, j * 2 + 1, none⟩ = some (.int .i64 (x j).2)
  free : ∀ o, w.frozen? ⟨B, o, none⟩ = false
theorem Row.drew {w : World} {B n : Nat} {x : Nat → Key} (R : Row w B n x) : Row w.drew B n x := ⟨R.ws, R.ats, R.free⟩
theorem Row.drewN {w : World} {B n : Nat} {x : Nat → Key} (R : Row w B n x) (m : Nat) : Row (w.drewN m) B n x := ⟨R.ws, R.ats, R.free⟩
theorem Row.congr {w : World} {B n : Nat} {x y : Nat → Key} (R : Row w B n x) (e : ∀ j, j < n → x j = y j) : Row w B n y :=
  ⟨fun j hj => by rw [← e j hj]; exact R.ws j hj, fun j hj => by rw [← e j hj]; exact R.ats j hj, R.free⟩
theorem Row.other {w : World} {B n : Nat} {x : Nat → Key} (R : Row w B n x) {b o : Nat} (hb : b ≠ B) (u : Value) : Row (w.setCell ⟨b, o, none⟩ u) B n x :=
  ⟨fun j hj => by rw [cell_set_ne (.inl hb)]; exact R.ws j hj, fun j hj => by rw [cell_set_ne (.inl hb)]; exact R.ats j hj, fun o => by rw [frozen_set]; exact R.free o⟩
theorem Row.set {w : World} {B n : Nat} {x : Nat → Key} (R : Row w B n x) {i : Nat} (hi : i < n) (k : Key) {v q : Int} (hv : v = (k.1 : Nat)) (hq : q = k.2) :
    Row ((w.setCell ⟨B, i * 2, none⟩ (.int .u64 v)).setCell ⟨B, i * 2 + 1, none⟩ (.int .i64 q)) B n (upd x i k) where
  ws := fun j hj => by
    rw [cell_set_ne (.inr (by omega))]
    by_cases hji : j = i
    · subst hji
      rw [cell_set_same (R.ws j hj), hv]
      simp [upd]
    · rw [cell_set_ne (.inr (by omega)), R.ws j hj]
      simp [upd, hji]
  ats := fun j hj => by
    by_cases hji : j = i
    · subst hji
      rw [cell_set_same (v := .int .i64 (x j).2) (by rw [cell_set_ne (.inr (by omega))]; exact R.ats j hj), hq]
      simp [upd]
    · rw [cell_set_ne (.inr (by omega)), cell_set_ne (.inr (by omega)), R.ats j hj]
      simp [upd, hji]
  free := fun o => by rw [frozen_set, frozen_set]; exact R.free o
theorem Row.below {w w' : World} {B n : Nat} {x : Nat → Key} (R : Row w B n x) (hb : B < w.heap.size) (hw : Below w.heap.size w w') : Row w' B n x :=
  ⟨fun j hj => (hw.cell (p := ⟨B, j * 2, none⟩) hb).trans (R.ws j hj), fun j hj => (hw.cell (p := ⟨B, j * 2 + 1, none⟩) hb).trans (R.ats j hj), fun o => (hw.frozen (p := ⟨B, o, none⟩) hb).trans (R.free o)⟩
theorem Row.only {S : Nat → Prop} {w w' : World} {B n : Nat} {x : Nat → Key} (R : Row w B n x) (hb : B < w.heap.size) (hw : Only S w w') (hn : ¬ S B) : Row w' B n x :=
  ⟨fun j hj => hw.cell (R.ws j hj) hn, fun j hj => hw.cell (R.ats j hj) hn, fun o => (hw.frozen (a := ⟨B, o, none⟩) hb hn).trans (R.free o)⟩

def okLen (n m : Nat) : Bool := decide (n + m ≤ 1048576)
set_option maxHeartbeats 400000 in
theorem bytes_any (ao bo : Option Addr) (n c m d : Nat) (hn : n ≤ maxLen) (hm : m ≤ maxLen) (w : World) :
    Calls Try.prog 16 #[.slice ao n c, .slice bo m d] w fun e w' => e = .returned (.bool (okLen n m)) ∧ w = w' := by
  unfold maxLen at hn hm
  go_enter Try.func16, Try.ntmps16
  go_wp2
  all_goals
    go_ret
    first
      | exact ⟨ret_bool (decide_eq_false (by omega)).symm, rfl⟩
      | exact ⟨ret_bool (decide_eq_true (by omega)).symm, rfl⟩

theorem key_any (v q : Int) (w : World) :
    Calls Try.prog 29 #[.int .u64 v, .int .i64 q] w fun e w' => e = .returned (.agg #[.int .u64 v, .int .i64 q]) ∧ Below w.heap.size w w' := by
  go_enter Try.func29, Try.ntmps29
  go_wp2
  refine bodyPost_ret (v := .agg #[.int .u64 v, .int .i64 q]) (by simp [results, Try.results29, go_sem]) rfl ⟨rfl, ?_⟩
  exact (Below.refl _ _).alloc (Nat.le_refl _) _
theorem keyW_any (v q : Int) (w : World) :
    Calls Try.prog 31 #[.agg #[.int .u64 v, .int .i64 q]] w fun e w' => e = .returned (.int .u64 v) ∧ Below w.heap.size w w' := by
  go_enter Try.func31, Try.ntmps31
  go_wp2
  go_ret
  exact ⟨rfl, (Below.refl _ _).alloc (Nat.le_refl _) _⟩
theorem keyAt_any (v q : Int) (w : World) :
    Calls Try.prog 32 #[.agg #[.int .u64 v, .int .i64 q]] w fun e w' => e = .returned (.int .i64 q) ∧ Below w.heap.size w w' := by
  go_enter Try.func32, Try.ntmps32
  go_wp2
  go_ret
  exact ⟨rfl, (Below.refl _ _).alloc (Nat.le_refl _) _⟩
end Go.Proofs.Qxb6603421a
