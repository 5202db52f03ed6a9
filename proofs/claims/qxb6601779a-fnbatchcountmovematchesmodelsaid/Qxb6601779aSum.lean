import Derived.WalkKit
namespace Go.Proofs.Qxb6601779a
open Go.RowKit

/-- A list of numbers with place k turned by f. -/
def mv (l : List Int) (k : Nat) (f : Int → Int) : List Int := l.set k (f (l.getD k 0))

theorem sum_set (l : List Int) (k : Nat) (v : Int) (hk : k < l.length) : (l.set k v).sum = l.sum - l.getD k 0 + v := by
  induction l generalizing k with
  | nil => simp at hk
  | cons x l ih =>
    cases k with
    | zero => simp; omega
    | succ k =>
      have h := ih k (by simpa using hk)
      simp only [List.set_cons_succ, List.sum_cons, List.getD_cons_succ]
      omega

theorem wrap_in (x y : Int) : wrap64 (wrap64 x + y) = wrap64 (x + y) := by unfold wrap64; omega
theorem wrap_mid (x y z : Int) (h : y = wrap64 z) : wrap64 (x + y) = wrap64 (x + z) := by subst h; unfold wrap64; omega

/-- The seven counters added up as Go adds them. -/
def sum7 (a0 a1 a2 a3 a4 a5 a6 : Int) : Int := wrap64 (wrap64 (wrap64 (wrap64 (wrap64 (wrap64 (a0 + a1) + a2) + a3) + a4) + a5) + a6)

theorem sum7_eq (a0 a1 a2 a3 a4 a5 a6 : Int) : sum7 a0 a1 a2 a3 a4 a5 a6 = wrap64 ([a0, a1, a2, a3, a4, a5, a6].sum) := by
  unfold sum7
  simp only [wrap_in, List.sum_cons, List.sum_nil]
  congr 1
  omega

theorem sum_move (l m q : List Int) (fi ti : Nat) (hl : l.length = 7) (hf : fi < 7) (ht : ti < 7) (hm : m = mv l fi (fun x => wrap64 (x - 1))) (hq : q = mv m ti (fun x => wrap64 (x + 1))) :
    wrap64 q.sum = wrap64 l.sum := by
  have h1 : m.sum = l.sum - l.getD fi 0 + wrap64 (l.getD fi 0 - 1) := by rw [hm]; exact sum_set _ _ _ (by omega)
  have hlm : m.length = 7 := by rw [hm]; simp [mv, hl]
  have h2 : q.sum = m.sum - m.getD ti 0 + wrap64 (m.getD ti 0 + 1) := by rw [hq]; exact sum_set _ _ _ (by omega)
  generalize l.getD fi 0 = x at h1
  generalize m.getD ti 0 = y at h2
  rw [h2, wrap_mid _ _ _ rfl, h1]
  have e : l.sum - x + wrap64 (x - 1) - y + (y + 1) = wrap64 (x - 1) + (l.sum - x + 1) := by omega
  rw [e, wrap_in]
  congr 1
  omega

theorem sum7_same (a0 a1 a2 a3 a4 a5 a6 q0 q1 q2 q3 q4 q5 q6 m0 m1 m2 m3 m4 m5 m6 : Int) (fi ti : Nat) (hf : fi < 7) (ht : ti < 7)
    (hm : [m0, m1, m2, m3, m4, m5, m6] = mv [a0, a1, a2, a3, a4, a5, a6] fi (fun x => wrap64 (x - 1)))
    (hq : [q0, q1, q2, q3, q4, q5, q6] = mv [m0, m1, m2, m3, m4, m5, m6] ti (fun x => wrap64 (x + 1))) :
    sum7 q0 q1 q2 q3 q4 q5 q6 = sum7 a0 a1 a2 a3 a4 a5 a6 := by
  rw [sum7_eq, sum7_eq]
  exact sum_move _ _ _ fi ti rfl hf ht hm hq
end Go.Proofs.Qxb6601779a
