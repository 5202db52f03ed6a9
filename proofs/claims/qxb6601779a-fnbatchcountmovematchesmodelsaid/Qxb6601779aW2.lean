import Derived.Test.Qxb6601779aW1
import Derived.Deep.QuietTactic
import Derived.BigQuiet
import Derived.Deep.DeepCutAuto
import Derived.Test.Qxb6601779aLaw
import Derived.Test.Qxb6601779aSum
namespace Go.Proofs.Qxb6601779a
open Go.RowKit

theorem grown_drewN {W w' : World} (h : Grown W w') (n : Nat) : Grown W (w'.drewN n) := ⟨⟨h.1.1, h.1.2.1, h.1.2.2⟩, h.2.1, h.2.2⟩

set_option maxHeartbeats 1000000 in
set_option maxRecDepth 100000 in
theorem main_any (a0 a1 a2 a3 a4 a5 a6 a7 : Int) (s t : ByteArray) (hs : s.size ≤ maxLen) (ht : t.size ≤ maxLen) (w : World) (hok : okLen s t = true) (fi ti : Nat) (hf : fi < 7) (hfi : stIdx s.toList = (fi : Int)) (ht7 : ti < 7) (hti : stIdx t.toList = (ti : Int)) :
    Calls Try.prog 8 #[.int .i64 a0, .int .i64 a1, .int .i64 a2, .int .i64 a3, .int .i64 a4, .int .i64 a5, .int .i64 a6, .int .i64 a7, .string s, .string t] w fun e w' => e = .returned (.bool true) ∧ Grown w w' := by
  have hl : s.size + t.size ≤ 1048576 := of_decide_eq_true hok
  go_enter Try.func8, Try.ntmps8
  go_upto_region 17 with (first
    | (go_at_call 21; refine (bytes_any _ _ _ _ _ _ _ _ _ _ hs ht _).mono ?_; rintro e w' ⟨rfl, rfl⟩)
    | (go_at_call 22; refine (idx_any _ _).mono ?_; rintro e w' ⟨rfl, rfl⟩))
  go_cut [] from 82 to 87 (fun wx => ∃ m0 m1 m2 m3 m4 m5 m6 : Int, wx = w.alloc (.cells #[.int .i64 m0, .int .i64 m1, .int .i64 m2, .int .i64 m3, .int .i64 m4, .int .i64 m5, .int .i64 m6] 33) ∧ [m0, m1, m2, m3, m4, m5, m6] = mv [a0, a1, a2, a3, a4, a5, a6] fi (fun x => wrap64 (x - 1)))
  case first =>
    rcases (show fi = 0 ∨ fi = 1 ∨ fi = 2 ∨ fi = 3 ∨ fi = 4 ∨ fi = 5 ∨ fi = 6 by omega) with rfl | rfl | rfl | rfl | rfl | rfl | rfl
    all_goals
      go_wp2
      go_meet
      case rel => exact ⟨_, _, _, _, _, _, _, rfl, rfl⟩
  case rest =>
    obtain ⟨m0, m1, m2, m3, m4, m5, m6, rfl, hm⟩ := hcut
    have HM := (show Hid _ from hm)
    clear hm
    go_upto_region 18 with fail
    go_cut [] from 88 to 93 (fun wx => ∃ n0 n1 n2 n3 n4 n5 n6 : Int, wx = w.alloc (.cells #[.int .i64 n0, .int .i64 n1, .int .i64 n2, .int .i64 n3, .int .i64 n4, .int .i64 n5, .int .i64 n6] 33) ∧ [n0, n1, n2, n3, n4, n5, n6] = mv [m0, m1, m2, m3, m4, m5, m6] ti (fun x => wrap64 (x + 1)))
    case first =>
      rcases (show ti = 0 ∨ ti = 1 ∨ ti = 2 ∨ ti = 3 ∨ ti = 4 ∨ ti = 5 ∨ ti = 6 by omega) with rfl | rfl | rfl | rfl | rfl | rfl | rfl
      all_goals
        go_wp2
        go_meet
        case rel => exact ⟨_, _, _, _, _, _, _, rfl, rfl⟩
    obtain ⟨n0, n1, n2, n3, n4, n5, n6, rfl, hn⟩ := hcut
    have HN := (show Hid _ from hn)
    clear hn
    go_upto_region 21 with (go_at_call 23; refine (count_any _ _ _ (by omega)).mono ?_; rintro e w' ⟨rfl, rfl⟩)
    go_cut [] from 107 to 112 (fun wx => ∃ p0 p1 p2 p3 p4 p5 p6 : Int, wx = (w.alloc (.cells #[.int .i64 n0, .int .i64 n1, .int .i64 n2, .int .i64 n3, .int .i64 n4, .int .i64 n5, .int .i64 n6] 33)).alloc (.cells #[.int .i64 0, .string { data := #[] }, .pointer none, .string { data := #[] }, .bool false, .pointer none, .pointer none, .int .i64 a7, .int .i64 p0, .int .i64 p1, .int .i64 p2, .int .i64 p3, .int .i64 p4, .int .i64 p5, .int .i64 p6, .float .f64 0] 40) ∧ [p0, p1, p2, p3, p4, p5, p6] = mv [a0, a1, a2, a3, a4, a5, a6] fi (fun x => wrap64 (x - 1)))
    case first =>
      rcases (show fi = 0 ∨ fi = 1 ∨ fi = 2 ∨ fi = 3 ∨ fi = 4 ∨ fi = 5 ∨ fi = 6 by omega) with rfl | rfl | rfl | rfl | rfl | rfl | rfl
      all_goals
        go_wp2
        go_meet
        case rel => exact ⟨_, _, _, _, _, _, _, rfl, rfl⟩
    obtain ⟨p0, p1, p2, p3, p4, p5, p6, rfl, hp⟩ := hcut
    have HP := (show Hid _ from hp)
    clear hp
    go_upto_region 23 with (go_at_call 23; refine (count_any _ _ _ (by omega)).mono ?_; rintro e w' ⟨rfl, rfl⟩)
    go_cut [] from 116 to 121 (fun wx => ∃ q0 q1 q2 q3 q4 q5 q6 : Int, wx = (w.alloc (.cells #[.int .i64 n0, .int .i64 n1, .int .i64 n2, .int .i64 n3, .int .i64 n4, .int .i64 n5, .int .i64 n6] 33)).alloc (.cells #[.int .i64 0, .string { data := #[] }, .pointer none, .string { data := #[] }, .bool false, .pointer none, .pointer none, .int .i64 a7, .int .i64 q0, .int .i64 q1, .int .i64 q2, .int .i64 q3, .int .i64 q4, .int .i64 q5, .int .i64 q6, .float .f64 0] 40) ∧ [q0, q1, q2, q3, q4, q5, q6] = mv [p0, p1, p2, p3, p4, p5, p6] ti (fun x => wrap64 (x + 1)))
    case first =>
      rcases (show ti = 0 ∨ ti = 1 ∨ ti = 2 ∨ ti = 3 ∨ ti = 4 ∨ ti = 5 ∨ ti = 6 by omega) with rfl | rfl | rfl | rfl | rfl | rfl | rfl
      all_goals
        go_wp2
        go_meet
        case rel => exact ⟨_, _, _, _, _, _, _, rfl, rfl⟩
    obtain ⟨q0, q1, q2, q3, q4, q5, q6, rfl, hq⟩ := hcut
    have HQ := (show Hid _ from hq)
    clear hq
    have hqn : [q0, q1, q2, q3, q4, q5, q6] = [n0, n1, n2, n3, n4, n5, n6] := by rw [HQ.out, HP.out, HN.out, HM.out]
    simp only [List.cons.injEq, and_true] at hqn
    obtain ⟨rfl, rfl, rfl, rfl, rfl, rfl, rfl⟩ := hqn
    go_upto_region 24 with fail
    go_cut [27] from 122 to 150 (fun t wx => t = .pointer (some ⟨w.heap.size + 1 + 1, 0, none⟩) ∧ wx = (((w.alloc (.cells #[.int .i64 q0, .int .i64 q1, .int .i64 q2, .int .i64 q3, .int .i64 q4, .int .i64 q5, .int .i64 q6] 33)).alloc (.cells #[.int .i64 0, .string { data := #[] }, .pointer none, .string { data := #[] }, .bool false, .pointer none, .pointer none, .int .i64 a7, .int .i64 q0, .int .i64 q1, .int .i64 q2, .int .i64 q3, .int .i64 q4, .int .i64 q5, .int .i64 q6, .float .f64 0] 40)).alloc (.cells #[.int .i64 q0, .int .i64 q1, .int .i64 q2, .int .i64 q3, .int .i64 q4, .int .i64 q5, .int .i64 q6] 33)).drew)
    case first =>
      obtain ⟨ι, W, hSW, hc0, hc1, hc2, hc3, hc4, hc5, hc6⟩ : ∃ (ι : Type) (W : ι → World), (∀ w', (∃ x, w' = W x) ↔ (w'.cell? ⟨w.heap.size + 1, 8, none⟩ = some (.int .i64 q0) ∧ w'.cell? ⟨w.heap.size + 1, 9, none⟩ = some (.int .i64 q1) ∧ w'.cell? ⟨w.heap.size + 1, 10, none⟩ = some (.int .i64 q2) ∧ w'.cell? ⟨w.heap.size + 1, 11, none⟩ = some (.int .i64 q3) ∧ w'.cell? ⟨w.heap.size + 1, 12, none⟩ = some (.int .i64 q4) ∧ w'.cell? ⟨w.heap.size + 1, 13, none⟩ = some (.int .i64 q5) ∧ w'.cell? ⟨w.heap.size + 1, 14, none⟩ = some (.int .i64 q6))) ∧ (∀ x, (W x).cell? ⟨w.heap.size + 1, 8, none⟩ = some (.int .i64 q0)) ∧ (∀ x, (W x).cell? ⟨w.heap.size + 1, 9, none⟩ = some (.int .i64 q1)) ∧ (∀ x, (W x).cell? ⟨w.heap.size + 1, 10, none⟩ = some (.int .i64 q2)) ∧ (∀ x, (W x).cell? ⟨w.heap.size + 1, 11, none⟩ = some (.int .i64 q3)) ∧ (∀ x, (W x).cell? ⟨w.heap.size + 1, 12, none⟩ = some (.int .i64 q4)) ∧ (∀ x, (W x).cell? ⟨w.heap.size + 1, 13, none⟩ = some (.int .i64 q5)) ∧ (∀ x, (W x).cell? ⟨w.heap.size + 1, 14, none⟩ = some (.int .i64 q6)) :=
        ⟨{ w' : World // w'.cell? ⟨w.heap.size + 1, 8, none⟩ = some (.int .i64 q0) ∧ w'.cell? ⟨w.heap.size + 1, 9, none⟩ = some (.int .i64 q1) ∧ w'.cell? ⟨w.heap.size + 1, 10, none⟩ = some (.int .i64 q2) ∧ w'.cell? ⟨w.heap.size + 1, 11, none⟩ = some (.int .i64 q3) ∧ w'.cell? ⟨w.heap.size + 1, 12, none⟩ = some (.int .i64 q4) ∧ w'.cell? ⟨w.heap.size + 1, 13, none⟩ = some (.int .i64 q5) ∧ w'.cell? ⟨w.heap.size + 1, 14, none⟩ = some (.int .i64 q6) }, fun x => x.1, fun w' => ⟨fun ⟨x, hx⟩ => hx ▸ x.2, fun h => ⟨⟨w', h⟩, rfl⟩⟩, fun x => x.2.1, fun x => x.2.2.1, fun x => x.2.2.2.1, fun x => x.2.2.2.2.1, fun x => x.2.2.2.2.2.1, fun x => x.2.2.2.2.2.2.1, fun x => x.2.2.2.2.2.2.2⟩
      have hin : ∃ x, ((w.alloc (.cells #[.int .i64 q0, .int .i64 q1, .int .i64 q2, .int .i64 q3, .int .i64 q4, .int .i64 q5, .int .i64 q6] 33)).alloc (.cells #[.int .i64 0, .string { data := #[] }, .pointer none, .string { data := #[] }, .bool false, .pointer none, .pointer none, .int .i64 a7, .int .i64 q0, .int .i64 q1, .int .i64 q2, .int .i64 q3, .int .i64 q4, .int .i64 q5, .int .i64 q6, .float .f64 0] 40)).drew = W x := (hSW _).2 (by simp)
      have hne : Nonempty ι := ⟨hin.choose⟩
      have HSW := (show Hid _ from hSW)
      clear hSW
      refine Law.wp_region_head W 29 (by kernel_rfl) (by kernel_rfl) (by kernel_rfl) (by kernel_rfl) (by kernel_rfl) (fun _ _ d _ _ h => by cases d <;> exact h) hin ?_
      clear hin
      intro Q0 hQ0
      simp only [List.take_succ_cons, List.take_zero]
      repeat (go_big_quiet_step (fail))
      refine wpQuiet_nil (hQ0 _ ?_)
      clear hQ0 Q0
      refine Law.wpS_one (i := 29) (by kernel_rfl) rfl rfl ?_
      intro K hK
      go_simp
      refine hK _ _ (HSW.out _ |>.2 (by go_simp)) ?_
      clear hK K
      refine Law.wpS_one (i := 30) (by kernel_rfl) rfl rfl ?_
      intro K hK
      go_simp
      refine hK _ _ (HSW.out _ |>.2 (by go_simp)) ?_
      clear hK K
      refine Law.wpS_end (by kernel_rfl) ?_
      clear HSW hne hc0 hc1 hc2 hc3 hc4 hc5 hc6
      go_wp2
      go_meet
      case rel => exact ⟨rfl, rfl⟩
    obtain ⟨rfl, rfl⟩ := hcut
    have heq := eq7 q0 q1 q2 q3 q4 q5 q6
    have hgd := guard33
    go_upto_region 27 with fail
    clear heq hgd
    go_cut [173] from 154 to 173 (fun c wx => c = .bool false ∧ ∃ n, wx = (((w.alloc (.cells #[.int .i64 q0, .int .i64 q1, .int .i64 q2, .int .i64 q3, .int .i64 q4, .int .i64 q5, .int .i64 q6] 33)).alloc (.cells #[.int .i64 0, .string { data := #[] }, .pointer none, .string { data := #[] }, .bool false, .pointer none, .pointer none, .int .i64 a7, .int .i64 q0, .int .i64 q1, .int .i64 q2, .int .i64 q3, .int .i64 q4, .int .i64 q5, .int .i64 q6, .float .f64 0] 40)).alloc (.cells #[.int .i64 q0, .int .i64 q1, .int .i64 q2, .int .i64 q3, .int .i64 q4, .int .i64 q5, .int .i64 q6] 33)).drewN n)
    case first =>
      obtain ⟨vf, c1, c2⟩ := cells_at w q0 q1 q2 q3 q4 q5 q6 a7 fi hf
      obtain ⟨vt, d1, d2⟩ := cells_at w q0 q1 q2 q3 q4 q5 q6 a7 ti ht7
      have hn : ∀ n, ∃ m, (((w.alloc (.cells #[.int .i64 q0, .int .i64 q1, .int .i64 q2, .int .i64 q3, .int .i64 q4, .int .i64 q5, .int .i64 q6] 33)).alloc (.cells #[.int .i64 0, .string { data := #[] }, .pointer none, .string { data := #[] }, .bool false, .pointer none, .pointer none, .int .i64 a7, .int .i64 q0, .int .i64 q1, .int .i64 q2, .int .i64 q3, .int .i64 q4, .int .i64 q5, .int .i64 q6, .float .f64 0] 40)).alloc (.cells #[.int .i64 q0, .int .i64 q1, .int .i64 q2, .int .i64 q3, .int .i64 q4, .int .i64 q5, .int .i64 q6] 33)).drew.drewN n = (((w.alloc (.cells #[.int .i64 q0, .int .i64 q1, .int .i64 q2, .int .i64 q3, .int .i64 q4, .int .i64 q5, .int .i64 q6] 33)).alloc (.cells #[.int .i64 0, .string { data := #[] }, .pointer none, .string { data := #[] }, .bool false, .pointer none, .pointer none, .int .i64 a7, .int .i64 q0, .int .i64 q1, .int .i64 q2, .int .i64 q3, .int .i64 q4, .int .i64 q5, .int .i64 q6, .float .f64 0] 40)).alloc (.cells #[.int .i64 q0, .int .i64 q1, .int .i64 q2, .int .i64 q3, .int .i64 q4, .int .i64 q5, .int .i64 q6] 33)).drewN m := fun n => ⟨n + 1, by simp [World.drewN, World.drew]; omega⟩
      generalize hWX : (((w.alloc (.cells #[.int .i64 q0, .int .i64 q1, .int .i64 q2, .int .i64 q3, .int .i64 q4, .int .i64 q5, .int .i64 q6] 33)).alloc (.cells #[.int .i64 0, .string { data := #[] }, .pointer none, .string { data := #[] }, .bool false, .pointer none, .pointer none, .int .i64 a7, .int .i64 q0, .int .i64 q1, .int .i64 q2, .int .i64 q3, .int .i64 q4, .int .i64 q5, .int .i64 q6, .float .f64 0] 40)).alloc (.cells #[.int .i64 q0, .int .i64 q1, .int .i64 q2, .int .i64 q3, .int .i64 q4, .int .i64 q5, .int .i64 q6] 33)).drew = WX at c1 c2 d1 d2 hn ⊢
      have HN2 := (show Hid _ from hn)
      clear hWX hn
      go_quiet (first
        | (go_at_call 23; exact Calls.quiet_of_same ((count_any _ _ _ (by omega)).mono fun _ _ h => ⟨h.1, h.2.symm⟩)))
      go_wp2
      go_meet
      case rel => exact ⟨rfl, HN2.out _⟩
    obtain ⟨rfl, nq, rfl⟩ := hcut
    go_upto_region 30 with fail
    go_cut [29] from 187 to 220 (fun c wx => c = .int .i64 (sum7 q0 q1 q2 q3 q4 q5 q6) ∧ ∃ n, wx = (((w.alloc (.cells #[.int .i64 q0, .int .i64 q1, .int .i64 q2, .int .i64 q3, .int .i64 q4, .int .i64 q5, .int .i64 q6] 33)).alloc (.cells #[.int .i64 0, .string { data := #[] }, .pointer none, .string { data := #[] }, .bool false, .pointer none, .pointer none, .int .i64 a7, .int .i64 q0, .int .i64 q1, .int .i64 q2, .int .i64 q3, .int .i64 q4, .int .i64 q5, .int .i64 q6, .float .f64 0] 40)).alloc (.cells #[.int .i64 q0, .int .i64 q1, .int .i64 q2, .int .i64 q3, .int .i64 q4, .int .i64 q5, .int .i64 q6] 33)).drewN n)
    case first =>
      have hn : ∀ n, ∃ m, ((((w.alloc (.cells #[.int .i64 q0, .int .i64 q1, .int .i64 q2, .int .i64 q3, .int .i64 q4, .int .i64 q5, .int .i64 q6] 33)).alloc (.cells #[.int .i64 0, .string { data := #[] }, .pointer none, .string { data := #[] }, .bool false, .pointer none, .pointer none, .int .i64 a7, .int .i64 q0, .int .i64 q1, .int .i64 q2, .int .i64 q3, .int .i64 q4, .int .i64 q5, .int .i64 q6, .float .f64 0] 40)).alloc (.cells #[.int .i64 q0, .int .i64 q1, .int .i64 q2, .int .i64 q3, .int .i64 q4, .int .i64 q5, .int .i64 q6] 33)).drewN nq).drewN n = (((w.alloc (.cells #[.int .i64 q0, .int .i64 q1, .int .i64 q2, .int .i64 q3, .int .i64 q4, .int .i64 q5, .int .i64 q6] 33)).alloc (.cells #[.int .i64 0, .string { data := #[] }, .pointer none, .string { data := #[] }, .bool false, .pointer none, .pointer none, .int .i64 a7, .int .i64 q0, .int .i64 q1, .int .i64 q2, .int .i64 q3, .int .i64 q4, .int .i64 q5, .int .i64 q6, .float .f64 0] 40)).alloc (.cells #[.int .i64 q0, .int .i64 q1, .int .i64 q2, .int .i64 q3, .int .i64 q4, .int .i64 q5, .int .i64 q6] 33)).drewN m := fun n => ⟨nq + n, by simp [World.drewN]; omega⟩
      have HN2 := (show Hid _ from hn)
      clear hn
      go_quiet (fail)
      go_wp2
      go_meet
      case rel => exact ⟨rfl, HN2.out _⟩
    obtain ⟨rfl, nr, rfl⟩ := hcut
    have hsm : (sum7 a0 a1 a2 a3 a4 a5 a6 != sum7 q0 q1 q2 q3 q4 q5 q6) = false := by
      rw [sum7_same a0 a1 a2 a3 a4 a5 a6 q0 q1 q2 q3 q4 q5 q6 m0 m1 m2 m3 m4 m5 m6 fi ti hf ht7 HM.out HN.out]
      simp
    have hsm' := hsm
    conv at hsm' => lhs; lhs; unfold sum7
    go_wp2
    go_ret
    exact ⟨rfl, grown_drewN ((((Grown.refl _).alloc _ _).alloc _ _).alloc _ _) _⟩

-- Too long, or a name that is no state's: it returns true at once.
set_option maxHeartbeats 400000 in
set_option maxRecDepth 100000 in
theorem long_any (a0 a1 a2 a3 a4 a5 a6 a7 : Int) (s t : ByteArray) (hs : s.size ≤ maxLen) (ht : t.size ≤ maxLen) (w : World) (hok : okLen s t = false) :
    Calls Try.prog 8 #[.int .i64 a0, .int .i64 a1, .int .i64 a2, .int .i64 a3, .int .i64 a4, .int .i64 a5, .int .i64 a6, .int .i64 a7, .string s, .string t] w fun e w' => e = .returned (.bool true) ∧ Grown w w' := by
  go_enter Try.func8, Try.ntmps8
  go_wp2_with (go_at_call 21; refine (bytes_any _ _ _ _ _ _ _ _ _ _ hs ht _).mono ?_; rintro e w' ⟨rfl, rfl⟩)
  go_ret
  exact ⟨rfl, Grown.refl _⟩

set_option maxHeartbeats 1000000 in
set_option maxRecDepth 100000 in
theorem none_any (a0 a1 a2 a3 a4 a5 a6 a7 : Int) (s t : ByteArray) (hs : s.size ≤ maxLen) (ht : t.size ≤ maxLen) (w : World) (hok : okLen s t = true) (hn : stIdx s.toList < 0 ∨ (0 ≤ stIdx s.toList ∧ stIdx t.toList < 0)) :
    Calls Try.prog 8 #[.int .i64 a0, .int .i64 a1, .int .i64 a2, .int .i64 a3, .int .i64 a4, .int .i64 a5, .int .i64 a6, .int .i64 a7, .string s, .string t] w fun e w' => e = .returned (.bool true) ∧ Grown w w' := by
  have hl : s.size + t.size ≤ 1048576 := of_decide_eq_true hok
  rcases hn with hn | ⟨hn0, hn⟩
  all_goals
    go_enter Try.func8, Try.ntmps8
    go_wp2_with (first
      | (go_at_call 21; refine (bytes_any _ _ _ _ _ _ _ _ _ _ hs ht _).mono ?_; rintro e w' ⟨rfl, rfl⟩)
      | (go_at_call 22; refine (idx_any _ _).mono ?_; rintro e w' ⟨rfl, rfl⟩))
    go_ret
    exact ⟨rfl, Grown.refl _⟩

theorem walk_any (a0 a1 a2 a3 a4 a5 a6 a7 : Int) (s t : ByteArray) (hs : s.size ≤ maxLen) (ht : t.size ≤ maxLen) (w : World) :
    Calls Try.prog 8 #[.int .i64 a0, .int .i64 a1, .int .i64 a2, .int .i64 a3, .int .i64 a4, .int .i64 a5, .int .i64 a6, .int .i64 a7, .string s, .string t] w fun e w' => e = .returned (.bool true) ∧ Grown w w' := by
  cases hok : okLen s t with
  | false => exact long_any a0 a1 a2 a3 a4 a5 a6 a7 s t hs ht w hok
  | true =>
    rcases stIdx_range s.toList with h1 | h1
    · exact none_any a0 a1 a2 a3 a4 a5 a6 a7 s t hs ht w hok (.inl (by omega))
    · rcases stIdx_range t.toList with h2 | h2
      · exact none_any a0 a1 a2 a3 a4 a5 a6 a7 s t hs ht w hok (.inr (by omega))
      · exact main_any a0 a1 a2 a3 a4 a5 a6 a7 s t hs ht w hok (stIdx s.toList).toNat (stIdx t.toList).toNat (by omega) (by omega) (by omega) (by omega)
end Go.Proofs.Qxb6601779a
