import Derived.Test.Qxb6602356aW8
namespace Go.Proofs.Qxb6602356a
open Go.RowKit Hx
set_option linter.unusedVariables false

theorem sort_any : ∀ (N : Nat) (l : List (Int × Int)) (n b off c : Nat) (w : World), l.length = n → n ≤ N → n ≤ 65536 → n ≤ c → b < w.heap.size → Prs w b off l →
    Calls Try.prog 28 #[.slice (some ⟨b, off, none⟩) n c] w fun e w' => SortPost l n w e w' := by
  intro N
  induction N with
  | zero =>
    intro l n b off c w hl hN h1 h2 hb hP
    obtain rfl : n = 0 := by omega
    have : l = [] := List.eq_nil_of_length_eq_zero hl
    subst this
    exact sort_nil b off c w
  | succ N ih =>
    intro l n b off c w hl hN h1 h2 hb hP
    by_cases hn : 2 ≤ n
    · exact sort_big N ih l b off c n w hN hl hn h1 h2 hb hP
    · match l, hl with
      | [], hl => simp at hl; subst hl; exact sort_nil b off c w
      | [(x, y)], hl =>
        simp at hl; subst hl
        have := hP 0 (by simp)
        exact sort_one b off c x y w (by simpa using this.1) (by simpa using this.2) hb
      | _ :: _ :: _, hl => simp at hl; omega

set_option maxHeartbeats 1000000 in
theorem same_any (la lb : List (Int × Int)) (n b1 b2 c1 c2 : Nat) (w : World) (hp : Hid (la.Perm lb)) (ha : Hid (la.length = n)) (hb : Hid (lb.length = n)) (hn : n ≤ 65536) (hc1 : n ≤ c1) (hc2 : n ≤ c2)
    (h1 : b1 < w.heap.size) (h2 : b2 < w.heap.size) (P1 : Hid (Prs w b1 0 la)) (P2 : Hid (Prs w b2 0 lb)) :
    Calls Try.prog 15 #[.slice (some ⟨b1, 0, none⟩) n c1, .slice (some ⟨b2, 0, none⟩) n c2] w fun e w' => e = .returned (.bool true) ∧ Below w.heap.size w w' := by
  go_enter Try.func15, Try.ntmps15
  go_wp2_with fail
  refine (sort_any n la n b1 0 c1 w ha.out (Nat.le_refl _) hn hc1 h1 P1.out).mono ?_
  rintro e w1 ⟨g1, k1, o1, rfl, hs1, hl1, hO1, hW1⟩
  have HS1 := (show Hid _ from hs1)
  have HL1 := (show Hid _ from hl1)
  have HO1 := (show Hid _ from hO1)
  have HW1 := (show Hid _ from hW1)
  have hz1 := hW1.size
  have hg1 := (Own.lt hO1).2
  clear hs1 hl1 hO1 hW1
  go_wp2_with fail
  refine (sort_any n lb n b2 0 c2 w1 hb.out (Nat.le_refl _) hn hc2 (by omega) (P2.out.below h2 HW1.out)).mono ?_
  rintro e w2 ⟨g2, k2, o2, rfl, hs2, hl2, hO2, hW2⟩
  have hz2 := hW2.size
  have hg2 := (Own.lt hO2).2
  obtain rfl : o1 = o2 := sortOf_same hp.out HS1.out hs2
  have Q1 : Hid (Prs w2 g1 0 o1) := (Own.below HO1.out hW2).prs
  have Q2 : Hid (Prs w2 g2 0 o1) := hO2.prs
  have HW2 : Hid (Below w.heap.size w w2) := HW1.out.trans (hW2.mono hz1)
  clear hs2 hl2 hO2 hW2
  go_wp2_with fail
  go_loopg [7] n (fun g i ww => ∃ (k m : Nat), k + g = n ∧ i = .int .i64 k ∧ ww = w2.drewN m)
  case atStart => exact ⟨0, 0, by omega, rfl, rfl⟩
  case round =>
    obtain ⟨k, m, hk, rfl, rfl⟩ := hrel
    by_cases hlt : k < n
    · have hk3 : k < o1.length := by have := HL1.out; omega
      have x1 := (Q1.out k hk3).1
      have x2 := (Q1.out k hk3).2
      have y1 := (Q2.out k hk3).1
      have y2 := (Q2.out k hk3).2
      simp only [Nat.zero_add] at x1 x2 y1 y2
      obtain ⟨lx, elx⟩ : ∃ q, q = o1[k] := ⟨_, rfl⟩
      rw [← elx] at x1 x2 y1 y2
      obtain ⟨l1, l2⟩ := lx
      simp only at x1 x2 y1 y2
      clear elx
      go_wp2_with fail
      go_quiet (fail)
      go_wp2_with fail
      go_roundg (gk - 1)
      case measure => omega
      case rel => exact ⟨k + 1, _, by omega, by go_num, rfl⟩
    · go_wp2_with fail
      go_ret
      exact ⟨rfl, ⟨HW2.out.os, HW2.out.tape, HW2.out.output, HW2.out.size, HW2.out.block⟩⟩
end Go.Proofs.Qxb6602356a
