/-
  'Rows.FnSortByDigitIdempotentSaid': the frame, after the one that the kit's tool wrote for another function of plain data; the walks: Qxb6603421aW1 .. W11.
-/
import Derived.Test.Qxb6603421aRows
import Derived.Test.Qxb6603421aW11
import Derived.WalkKit
import Derived.ProofKit
import Derived.OpenShut
import Derived.Deep.SlicePairs
import Derived.ChangeOld
import Derived.Below
namespace Go.Proofs.Qxb6603421a.fnSortByDigitIdempotent
open Go.ChangeShapes Go.WideShapes Go.ChangeAt Go.RowKit
set_option linter.unusedVariables false

theorem own : ownKnob Try.prog.godebug = none := by kernel_rfl
theorem laidOut : laidOutB Try.prog = true := by kernel_rfl

/-- The key that two cells hold. -/
def keyOf (u v : Value) : Key :=
  match u, v with
  | .int _ n, .int _ q => (n.toNat, q)
  | _, _ => (0, 0)

/-- What the walk is told of a slice of keys that came in. -/
def IsKeys (w : World) (a : Option Addr) (len : Nat) (x : Nat → Key) : Prop := len ≤ maxLen ∧ Keys w a len x ∧ ∀ j, j < len → (x j).1 < 18446744073709551616

theorem open_keys {H : Type} {enc : TypeId × Value → H} {w : World} {base : Nat} {spare : Nat → Bool} {held : Bool} {fuel : Nat} {a : Option Addr} {len cap : Nat} {x : DataW H × List MemPlace}
    (h : DataW.trod enc Try.prog w base spare held fuel 22 [.slice a len cap] = some x) : ∃ k, IsKeys w a len k := by
  rcases Go.Deep.open_slice_pairs Try.underlying22 Try.underlying60 (by kernel_rfl) rfl rfl (by kernel_rfl) (by kernel_rfl) h with ⟨hcs, _⟩ | ⟨p, l, c, m, n, V0, V1, D0, D1, P0, P1, hcs, _, hl, hm, hmm, _, hcell⟩
  · simp at hcs
    obtain ⟨rfl, rfl, rfl⟩ := hcs
    exact ⟨fun _ => (0, 0), Nat.zero_le _, .inl rfl, fun j hj => absurd hj (Nat.not_lt_zero _)⟩
  · simp at hcs
    obtain ⟨rfl, rfl, rfl⟩ := hcs
    have hlm : len ≤ m := by rw [hmm]; split <;> omega
    have each : ∀ j, j < len → ∃ (v q : Int), V0 j = .int .u64 v ∧ V1 j = .int .i64 q ∧ 0 ≤ v ∧ v ≤ 18446744073709551615 := by
      intro j hj
      obtain ⟨_, _, t0, t1⟩ := hcell j (by omega)
      obtain ⟨v, e0, _, g0⟩ := DataW.trod_int Try.underlying29 t0
      obtain ⟨q, e1, _, _⟩ := DataW.trod_int Try.underlying3 t1
      have bd := range_u64 (zs := [v]) (by simpa using g0) 0
      simp at bd
      exact ⟨v, q, by simpa using e0, by simpa using e1, bd.1, bd.2⟩
    refine ⟨fun j => keyOf (V0 j) (V1 j), by omega, ?_, fun j hj => ?_⟩
    · by_cases h0 : len = 0
      · exact .inl h0
      · right
        obtain ⟨b, off, spot⟩ := p
        have c0 := (hcell 0 (by omega)).1
        have hs : spot = none := by simpa [Addr.add] using World.cell?_spot c0
        subst hs
        refine ⟨b, off, rfl, fun j hj => ?_, fun j hj => ?_, ?_⟩
        · obtain ⟨v, q, e0, e1, b0, b1⟩ := each j hj
          have := (hcell j (by omega)).1
          rw [Addr.add_lit] at this
          rw [this, e0, e1]
          simp [keyOf]
          omega
        · obtain ⟨v, q, e0, e1, b0, b1⟩ := each j hj
          have := (hcell j (by omega)).2.1
          rw [Addr.add_lit] at this
          rw [Nat.add_assoc, this, e0, e1]
          rfl
        · have := World.block_lt_of_cell? _ _ c0
          simpa [Addr.add] using this
    · obtain ⟨v, q, e0, e1, b0, b1⟩ := each j hj
      show (keyOf (V0 j) (V1 j)).1 < _
      rw [e0, e1]
      simp [keyOf]
      omega

theorem walk (a0 : Option Addr) (len0 cap0 : Nat) (x : Nat → Key) (a1 : Option Addr) (len1 cap1 : Nat) (t : Nat → Key) (w : World) (w0 : IsKeys w a0 len0 x) (w1 : IsKeys w a1 len1 t) :
    Calls Try.prog 4 #[.slice a0 len0 cap0, .slice a1 len1 cap1] w fun e w' => e = .returned (.bool true) ∧ Below w.heap.size w w' := by
  obtain ⟨n0, k0, r0⟩ := w0
  obtain ⟨n1, k1, r1⟩ := w1
  cases hok : okLen len0 len1 with
  | false => exact main_long a0 a1 len0 cap0 len1 cap1 n0 n1 w hok
  | true =>
    by_cases hw : 32768 < len0 ∨ (len0 ≤ 32768 ∧ 32768 < len1)
    · exact main_wide a0 a1 len0 cap0 len1 cap1 n0 n1 w hok hw
    · by_cases hne : 32 < len0 ∧ len1 ≠ len0
      · exact main_ne a0 a1 len0 cap0 len1 cap1 (by omega) (by omega) w hne.1 hne.2
      · refine main_go a0 a1 len0 cap0 len1 cap1 x t (by omega) (by omega) r0 w (fun h => by omega) ?_ k0 k1
        by_cases h : len0 ≤ 32
        · exact .inl h
        · refine .inr ⟨by omega, ?_⟩
          have : len1 = len0 := by omega
          subst this
          simp

set_option maxRecDepth 100000 in
theorem lifted (os : Os) (started : os.Started) (H : Type) (enc : TypeId × Value → H) :
    ReturnsInHanded {} Try.checked os 4 .any (Rows.fnSortByDigitIdempotentSpec.pre6 enc Try.prog Try.f4 Rows.fnSortByDigitIdempotentRow.domain false) (Rows.fnSortByDigitIdempotentSpec.post enc Try.prog Try.f4 false true false false) := by
  refine returnsInHanded_of_change (C := Try.checked) own started (by kernel_rfl) Try.func4
    (ChangeSpec.witness6 (enc := enc) (C := Try.checked) false ⟨#[], #[.slice none 0 0, .slice none 0 0], []⟩ 8 (by kernel_rfl) (by kernel_rfl) (by kernel_rfl) (by kernel_rfl)) ?_
  intro W base args ds gs before hval0 hW hcnd _
  have hval : ∀ (j : Nat) t v, Try.f4.params[j]? = some t → args[j]? = some v → Value.okWide Try.prog W .any base t v := hval0
  have hW' := hW
  obtain ⟨p, q, hA0, hV, rfl, hfz, hnd⟩ := hW
  have hA : DataW.TrodAll enc Try.prog W 0 (fun _ => true) true Try.f4.params.toList args.toList ds p := hA0
  rw [Try.params4] at hA hval
  obtain ⟨v0, vs0, d0, ds0, p0, q0, hargs, rfl, rfl, h0, r0⟩ := trodAll_cons hA
  obtain ⟨v1, vs1, d1, ds1, p1, q1, rfl, rfl, rfl, h1, r1⟩ := trodAll_cons r0
  obtain ⟨rfl, rfl, rfl⟩ := trodAll_nil r1
  obtain rfl : args = #[v0, v1] := by cases args; simp_all
  obtain ⟨rfl, rfl⟩ := trodVars_none hV
  obtain ⟨a0, len0, cap0, rfl⟩ := okWide_slice Try.underlying22 (hval 0 22 v0 rfl rfl)
  have k0 := h0
  have lt0 : ∀ x ∈ p0, x.block < W.heap.size := by obtain ⟨m, hm⟩ := k0; exact DataW.trod_lt m _ _ _ hm
  obtain ⟨x0, w0⟩ : ∃ k, IsKeys W a0 len0 k := by obtain ⟨fuel, hf⟩ := h0; exact open_keys hf
  obtain ⟨a1, len1, cap1, rfl⟩ := okWide_slice Try.underlying22 (hval 1 22 v1 rfl rfl)
  have k1 := h1
  have lt1 : ∀ x ∈ p1, x.block < W.heap.size := by obtain ⟨m, hm⟩ := k1; exact DataW.trod_lt m _ _ _ hm
  obtain ⟨x1, w1⟩ : ∃ k, IsKeys W a1 len1 k := by obtain ⟨fuel, hf⟩ := h1; exact open_keys hf
  clear hA0 hval0
  refine (walk a0 len0 cap0 x0 a1 len1 cap1 x1 W w0 w1).mono fun e W' ⟨he, bel⟩ => ?_
  subst he
  exact ⟨_, rfl, _, _, _, [], _, [], hW', trodAll_mk1 (shut_bool Try.underlying4 _), (trodAll_cons_mk (Below.trod laidOut (by kernel_rfl) (of_decide_eq_true (by kernel_rfl)) k0 bel lt0) (trodAll_cons_mk (Below.trod laidOut (by kernel_rfl) (of_decide_eq_true (by kernel_rfl)) k1 bel lt1) trodAll_mk0)), rfl, bel.frame _, fun h => by cases h⟩

theorem over : Rows.fnSortByDigitIdempotentRow.holds Try.pinned (OpenSpec.ofChange Rows.fnSortByDigitIdempotentSpec) :=
  OpenClaim.holds_of_wide 4 Try.f4 rfl rfl rfl rfl rfl rfl rfl ⟨rfl, rfl, rfl, rfl, rfl⟩ rfl rfl rfl rfl rfl (by kernel_rfl) Try.func4 (by kernel_rfl)
    (of_decide_eq_true (by kernel_rfl)) (by unfold Func.isWrapper; first | (rw [if_pos (by decide +kernel)]; kernel_rfl) | (rw [if_neg (by decide +kernel)]; exact ⟨rfl, rfl⟩))
    (fun os started H enc _ => lifted os started H enc)

/-- THE STATEMENT -/
theorem proved : Rows.FnSortByDigitIdempotentSaid := over
#print axioms proved
end Go.Proofs.Qxb6603421a.fnSortByDigitIdempotent
