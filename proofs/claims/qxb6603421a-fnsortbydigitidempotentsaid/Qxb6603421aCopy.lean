import Derived.Test.Qxb6603421aW7
import Derived.Laws.IdiomCopy
namespace Go.Proofs.Qxb6603421a
open Go.RowKit
set_option linter.unusedVariables false
theorem run_copy_pairs {P : Program} (w : World) (dT sT ty elem : TypeId) (b o dCap : Nat) (a : Addr) (n sCap : Nat) (cs : List Value)
    (hu : P.underlying dT = some (.slice elem)) (hs : (P.info? elem).map (·.size) = some 2) (hn : cs.length = n * 2)
    (hsrc : ∀ j v, cs[j]? = some v → w.cell? (a.add j) = some v) (hc : ∀ j, j < cs.length → (w.cell? ⟨b, o + j, none⟩).isSome = true) (hf : ∀ j, j < cs.length → w.frozen? ⟨b, o + j, none⟩ = false) (h1 : ∀ v ∈ cs, v.oneCell' = true) :
    (Builtin.copy_ #[dT, sT] ty #[.slice (some ⟨b, o, none⟩) n dCap, .slice (some a) n sCap]).run P w = .ok (goInt n) (w.setCells b o cs) := by
  have hl := run_loadCells_list (P := P) w a cs hsrc
  have hst := run_storeCells_cells (P := P) b o cs 0 w (by simpa using hc) (by simpa using hf) h1
  cases hq : P.info? elem with
  | none => simp [hq] at hs
  | some i =>
    have hi : i.size = 2 := by simpa [hq] using hs
    simp [Builtin.copy_, run_underlying hu, Builtin.lenOf, Builtin.firstCells, sizeOf, typeInfo, hq, hi, ← hn, hl, hst]

theorem Only.setCells {S : Nat → Prop} {w0 : World} {b : Nat} (hb : S b) : ∀ (vs : List Value) (o : Nat) (w : World), Only S w0 w → Only S w0 (w.setCells b o vs)
  | [], _, _, h => h
  | v :: vs, o, w, h => Only.setCells hb vs (o + 1) _ (h.setCell (p := ⟨b, o, none⟩) hb v)
/-- The m-th cell of a row of keys. -/
def cellOf (y : Nat → Key) (m : Nat) : Value := if m % 2 = 0 then .int .u64 ((y (m / 2)).1 : Nat) else .int .i64 (y (m / 2)).2
theorem Row.at_cell {w : World} {B n : Nat} {y : Nat → Key} (R : Row w B n y) {m : Nat} (hm : m < n * 2) : w.cell? ⟨B, m, none⟩ = some (cellOf y m) := by
  unfold cellOf
  by_cases h : m % 2 = 0
  · rw [if_pos h, ← R.ws (m / 2) (by omega)]; congr; omega
  · rw [if_neg h, ← R.ats (m / 2) (by omega)]; congr; omega
theorem Row.of_cells {w : World} {B n : Nat} {y : Nat → Key} (h : ∀ m, m < n * 2 → w.cell? ⟨B, m, none⟩ = some (cellOf y m)) (hf : ∀ o, w.frozen? ⟨B, o, none⟩ = false) : Row w B n y where
  ws := fun j hj => by
    rw [h (j * 2) (by omega)]
    unfold cellOf
    rw [if_pos (by omega), show j * 2 / 2 = j by omega]
  ats := fun j hj => by
    rw [h (j * 2 + 1) (by omega)]
    unfold cellOf
    rw [if_neg (by omega), show (j * 2 + 1) / 2 = j by omega]
  free := hf
theorem copy_keys {Bs Bd n : Nat} {y z : Nat → Key} (w : World) (R : Row w Bs n y) (T : Row w Bd n z) (hne : Bs ≠ Bd) :
    ∃ v w', (Builtin.copy_ #[24, 24] 3 #[.slice (some ⟨Bd, 0, none⟩) n n, .slice (some ⟨Bs, 0, none⟩) n n]).run Try.prog w = .ok v w' ∧ Row w' Bd n y ∧ Row w' Bs n y ∧ Only (fun k => k = Bd) w w' := by
  have hlen : ((List.range (n * 2)).map (cellOf y)).length = n * 2 := by simp
  have hrun := run_copy_pairs (P := Try.prog) w 24 24 3 57 Bd 0 n ⟨Bs, 0, none⟩ n n ((List.range (n * 2)).map (cellOf y)) Try.underlying24 (by kernel_rfl) hlen
    (fun j v hv => by
      by_cases hj : j < n * 2
      · simp [hj] at hv
        rw [← hv, Addr.add_lit, Nat.zero_add]
        exact R.at_cell hj
      · simp [hj] at hv)
    (fun j hj => by rw [hlen] at hj; rw [Nat.zero_add, T.at_cell hj]; rfl) (fun j hj => T.free _)
    (fun v hv => by
      obtain ⟨m, _, rfl⟩ := List.mem_map.1 hv
      unfold cellOf
      split <;> rfl)
  have ho : Only (fun k => k = Bd) w (w.setCells Bd 0 ((List.range (n * 2)).map (cellOf y))) := Only.setCells (S := fun k => k = Bd) rfl _ _ _ (Only.refl _ _)
  refine ⟨_, _, hrun, Row.of_cells (fun m hm => ?_) (fun o => by rw [World.frozen?_setCells]; exact T.free o), ⟨fun j hj => ho.cell (R.ws j hj) hne, fun j hj => ho.cell (R.ats j hj) hne, fun o => by rw [World.frozen?_setCells]; exact R.free o⟩, ho⟩
  have := World.cell?_setCells_in Bd ((List.range (n * 2)).map (cellOf y)) 0 w (fun j hj => by rw [hlen] at hj; rw [Nat.zero_add, T.at_cell hj]; rfl) m (by rw [hlen]; exact hm)
  rw [Nat.zero_add] at this
  rw [this]
  simp
theorem cells_of {w : World} {b o : Nat} {v : Value} (h : w.cell? ⟨b, o, none⟩ = some v) : ∃ cs t f, w.heap[b]? = some (.cells cs t f) := by
  simp only [World.cell?] at h
  cases hb : w.heap[b]? with
  | none => rw [hb] at h; simp at h
  | some ob =>
    rw [hb] at h
    cases ob <;> simp at h
    exact ⟨_, _, _, rfl⟩
theorem eqIn80 (d a b : Nat) (w : World) (va vb : Value) (ha : w.cell? ⟨a, 0, none⟩ = some va) (hb : w.cell? ⟨b, 0, none⟩ = some vb) (fa : ∀ o, w.frozen? ⟨a, o, none⟩ = false) (fb : ∀ o, w.frozen? ⟨b, o, none⟩ = false) :
    (Op.equalIn (d + 1) 80 (.pointer (some ⟨a, 0, none⟩)) (.pointer (some ⟨b, 0, none⟩))).run Try.prog w = .ok (a == b) w := by
  have hu : Try.prog.underlying 80 = some (.pointer 57) := by kernel_rfl
  obtain ⟨i, hi, hs⟩ : ∃ i, Try.prog.info? 57 = some i ∧ i.size = 2 := by
    have h : (Try.prog.info? 57).map (·.size) = some 2 := by kernel_rfl
    cases hq : Try.prog.info? 57 with
    | none => rw [hq] at h; cases h
    | some i => rw [hq] at h; exact ⟨i, rfl, by simpa using h⟩
  obtain ⟨ca, ta, ga, ea⟩ := cells_of ha
  obtain ⟨cb, tb, gb, eb⟩ := cells_of hb
  have sa : w.shape? a = some (ta, ca.size) := by simp [World.shape?, ea]
  have sb : w.shape? b = some (tb, cb.size) := by simp [World.shape?, eb]
  simp [Op.equalIn, run_underlying hu, sizeOf, typeInfo, sameAddr, hi, hs, fa, fb]
  by_cases h : a = b
  · subst h; simp
  · simp [h, noView, viewAt, mayBeOne, stringish, sa, sb, fa, fb]
theorem neq80 (a b : Nat) (w : World) (va vb : Value) (ha : w.cell? ⟨a, 0, none⟩ = some va) (hb : w.cell? ⟨b, 0, none⟩ = some vb) (fa : ∀ o, w.frozen? ⟨a, o, none⟩ = false) (fb : ∀ o, w.frozen? ⟨b, o, none⟩ = false) :
    (binOp .neq 80 (.pointer (some ⟨a, 0, none⟩)) (.pointer (some ⟨b, 0, none⟩))).run Try.prog w = .ok (.bool (!(a == b))) w := by
  have h : (Op.equal 80 (.pointer (some ⟨a, 0, none⟩)) (.pointer (some ⟨b, 0, none⟩))).run Try.prog w = .ok (a == b) w := eqIn80 9999 a b w va vb ha hb fa fb
  simp only [binOp]
  simp [h]
theorem Row.first {w : World} {B n : Nat} {y : Nat → Key} (R : Row w B n y) (hn : 0 < n) : w.cell? ⟨B, 0, none⟩ = some (.int .u64 ((y 0).1 : Nat)) := by
  have := R.ws 0 hn
  simpa using this
theorem same_row {w : World} {B n : Nat} {y : Nat → Key} (R : Row w B n y) (hn : 0 < n) : (binOp .neq 80 (.pointer (some ⟨B, 0, none⟩)) (.pointer (some ⟨B, 0, none⟩))).run Try.prog w = .ok (.bool false) w := by
  have := neq80 B B w _ _ (R.first hn) (R.first hn) R.free R.free
  simpa using this
theorem two_rows {w : World} {B C n : Nat} {y z : Nat → Key} (R : Row w B n y) (T : Row w C n z) (hn : 0 < n) (hne : B ≠ C) : (binOp .neq 80 (.pointer (some ⟨B, 0, none⟩)) (.pointer (some ⟨C, 0, none⟩))).run Try.prog w = .ok (.bool true) w := by
  have := neq80 B C w _ _ (R.first hn) (T.first hn) R.free T.free
  rw [show (B == C) = false by simpa using hne] at this
  exact this
end Go.Proofs.Qxb6603421a
