import Derived.Orders
import Derived.Deep.Quiet
import Derived.OwnWalk
namespace Go.Proofs.Qxb6602356a.Law
open Go

section
variable {P : Program} {ops : Array Oper} {Q : Exit → Act → World → Prop} {md : Region.Mode} {S : World → Prop}

/-- In every world of the kind S the operation leaves v in its slot and the world as it is (or it is passed over). -/
def Gives (P : Program) (ops : Array Oper) (S : World → Prop) (o : Oper) (v : Value) (a : Act) : Prop :=
  (Region.wanted o (yielded ops a.tmps) = true ∧ ∀ w, S w → (execOp a.eval o).run P w = .ok (.value v) w) ∨
  (Region.wanted o (yielded ops a.tmps) = false ∧ v = undef)

/-- A frame that differs in one slot (and in what is deferred) at most. -/
def Near (a : Act) (dst : Option Tmp) (a' : Act) : Prop := ∃ u, a'.tmps = (a.put dst u).tmps

/-- What an operation does to the frame: its own slot alone. -/
theorem wpOp_near {j : Nat} {o : Oper} (hj : ops[j]? = some o) {K : Act → World → Prop} {a : Act} {w : World} (h : wpOp P ops Q j K a w) :
    wpOp P ops Q j (fun a' w' => Near a o.dst a' ∧ K a' w') a w := by
  unfold wpOp at *
  simp only [hj] at *
  split
  · rename_i hw
    simp only [hw, if_true] at h
    rcases h with h | h
    · refine .inl ?_
      unfold Oper.wp at *
      generalize (execOp a.eval o).run P w = r at *
      cases r with
      | ok n w' =>
        cases n <;> simp only [Oper.upon] at h ⊢
        case value u => exact ⟨⟨u, rfl⟩, h⟩
        case skip => exact ⟨⟨undef, rfl⟩, h⟩
        case defer d => exact ⟨⟨undef, by cases o.dst <;> rfl⟩, h⟩
        case enter f args =>
          refine Calls.mono h fun e w'' he => ?_
          cases e with
          | returned u => exact ⟨⟨u, rfl⟩, he⟩
          | panicked c => exact he
          | outgrown => exact he
        case row row args => exact Rows.mono h fun u w'' he => ⟨⟨u, rfl⟩, he⟩
      | halt x w' => cases x <;> simp only [Oper.upon] at h ⊢ <;> exact h
    · exact .inr h
  · rename_i hw
    simp only [hw] at h
    exact ⟨⟨undef, rfl⟩, h⟩

theorem eval_of_tmps {a b : Act} (h : a.tmps = b.tmps) : a.eval = b.eval := by
  funext x
  cases x <;> simp [Act.eval, h]

theorem Gives.near {oi : Oper} {v : Value} {a a' : Act} {dst : Option Tmp} (hs : ∀ cs b, oi.op ≠ .select cs b) (hd : ∀ d, dst = some d → d ∉ oi.looksAt ops)
    (hy : Gives P ops S oi v a) (hn : Near a dst a') : Gives P ops S oi v a' := by
  obtain ⟨u, hu⟩ := hn
  unfold Gives at *
  rw [eval_of_tmps hu, hu, execOp_put oi hs a dst u hd, wanted_put oi a dst u hd]
  exact hy

/-- Whatever order is picked from here on; behind each operation the world is of the kind. -/
def wpS (P : Program) (md : Region.Mode) (ops : Array Oper) (Q : Exit → Act → World → Prop) (S : World → Prop) : Nat → Array Bool → Act → World → Prop
  | 0, listed, a, w => Region.ready md ops listed = [] ∧ Q .normal a w
  | fuel + 1, listed, a, w =>
    (Region.ready md ops listed = [] → Q .normal a w) ∧
    ∀ i ∈ Region.ready md ops listed, wpOp P ops Q i (fun a' w' => S w' ∧ wpS P md ops Q S fuel (listed.setIfInBounds i true) a' w') a w

theorem wpAny_of_wpS : ∀ (fuel : Nat) (listed : Array Bool) (a : Act) (w : World), wpS P md ops Q S fuel listed a w → wpAny P md ops Q fuel listed a w
  | 0, _, _, _, h => h
  | fuel + 1, _, _, _, h => ⟨h.1, fun i hi => wpOp_mono (fun a' w' h' => wpAny_of_wpS fuel _ a' w' h'.2) (h.2 i hi)⟩

theorem Gives.op {i : Nat} {o : Oper} {v : Value} {a : Act} (hi : ops[i]? = some o) (hy : Gives P ops S o v a)
    {K : Act → World → Prop} {w : World} (hS : S w) (h : K (a.put o.dst v) w) : wpOp P ops Q i K a w := by
  unfold wpOp
  simp only [hi]
  rcases hy with ⟨hw, hv⟩ | ⟨hw, rfl⟩
  · simp only [hw, if_true, Oper.wp, hv w hS, Oper.upon]; exact .inl h
  · simp only [hw, Bool.false_eq_true, if_false]; exact h

/-- THE LAW: an operation that may come up now, and that gives its value in every world of the kind, may be taken first. -/
theorem wpS_first {i : Nat} {oi : Oper} {v : Value} (hi : ops[i]? = some oi) (hsel : ∀ (j : Nat) (o : Oper) cs b, ops[j]? = some o → o.op ≠ .select cs b)
    (hQ : ∀ c a w, Q (.panic c) (a.put oi.dst v) w → Q (.panic c) a w) :
    ∀ (fuel : Nat) (listed : Array Bool) (a : Act) (w : World),
      (∀ j oj, ops[j]? = some oj → j ≠ i → listed.getD j true = false → (∀ e ∈ oj.after, Region.binds md e = true → e.on ≠ i) → oi.apart ops oj = true) →
      i ∈ Region.ready md ops listed → Gives P ops S oi v a → S w →
      wpS P md ops Q S fuel (listed.setIfInBounds i true) (a.put oi.dst v) w → wpS P md ops Q S (fuel + 1) listed a w := by
  intro fuel
  induction fuel with
  | zero =>
    intro listed a w _ hr hy hS H
    refine ⟨fun h => (by rw [h] at hr; cases hr), fun j hj => ?_⟩
    by_cases hji : j = i
    · subst hji; exact hy.op hi hS ⟨hS, H⟩
    · have := ready_mono hj hji
      rw [H.1] at this
      cases this
  | succ fuel ih =>
    intro listed a w hfree hr hy hS H
    refine ⟨fun h => (by rw [h] at hr; cases hr), fun j hj => ?_⟩
    by_cases hji : j = i
    · subst hji; exact hy.op hi hS ⟨hS, H⟩
    · have h1 := H.2 j (ready_mono hj hji)
      obtain ⟨hjun, oj, hoj, hall⟩ := mem_ready.1 hj
      have hnot : ∀ e ∈ oj.after, Region.binds md e = true → e.on ≠ i := fun e he hb heq => by
        have h1 := hall e he hb
        have h0 := (mem_ready.1 hr).1
        rw [heq] at h1
        rcases Nat.lt_or_ge i listed.size with h' | h'
        · simp [h'] at h0 h1; rw [h0] at h1; cases h1
        · simp [Array.getElem?_eq_none h'] at h1
      have hap := hfree j oj hoj hji hjun hnot
      obtain ⟨hA, hB, hC⟩ := Oper.apart_spec hap
      -- a stand-in for the operation: the same slot, the same guard, a constant: it yields in whatever world
      have hap' : ({ oi with op := .assign (.const v) } : Oper).apart ops oj = true := by
        unfold Oper.apart at hap ⊢
        simp only [Bool.and_eq_true] at hap ⊢
        refine ⟨hap.1, ?_⟩
        have h2 := hap.2
        cases hd : oj.dst with
        | none => rfl
        | some d =>
          simp only [hd] at h2 ⊢
          simp only [Bool.not_eq_true', List.contains_eq_mem, decide_eq_false_iff_not] at h2 ⊢
          intro hin
          refine h2 ?_
          unfold Oper.looksAt at hin ⊢
          rcases List.mem_append.1 hin with h3 | h3
          · exfalso
            simp [Op.operands] at h3
          · exact List.mem_append.2 (.inr h3)
      have hy' : Yields P ops ({ oi with op := .assign (.const v) } : Oper) v a := by
        rcases hy with ⟨hw, _⟩ | ⟨hw, hu⟩
        · exact .inl ⟨hw, fun w => rfl⟩
        · exact .inr ⟨hw, hu⟩
      have h2 := wpOp_put (oi := ({ oi with op := .assign (.const v) } : Oper)) hoj hap' (fun cs b h => by cases h) (fun cs b => hsel j oj cs b hoj) hQ hy' h1
      have h2' := wpOp_near hoj h2
      have hfree' : ∀ k ok, ops[k]? = some ok → k ≠ i → (listed.setIfInBounds j true).getD k true = false →
          (∀ e ∈ ok.after, Region.binds md e = true → e.on ≠ i) → oi.apart ops ok = true := fun k ok hk hki hun hno => by
        refine hfree k ok hk hki ?_ hno
        by_cases hjk : j = k
        · subst hjk; exact hjun
        · rw [getD_set_ne true hjk] at hun; exact hun
      refine wpOp_mono (fun a' w' h3 => ?_) h2'
      obtain ⟨hn, _, hS', h4⟩ := h3
      refine ⟨hS', ih (listed.setIfInBounds j true) a' w' hfree' (ready_mono hr (Ne.symm hji)) (hy.near (fun cs b => hsel i oi cs b hi) hC hn) hS' ?_⟩
      rw [Array.setIfInBounds_comm _ _ hji]
      exact h4

/-- Operations that end in a value, or die: no call of a Go function, no store. -/
def plain : Op → Bool
  | .move _ | .assign _ | .load .. | .nilCheck _ | .fieldAddr .. | .indexAddr .. | .build .. | .binOp .. => true
  | _ => false

theorem plain_value {o : Oper} {a : Act} {C : World → Prop} {v : Value} (hp : plain o.op = true) {w : World} (h : o.quietAt P a C w v) :
    (execOp a.eval o).run P w = .ok (.value v) w := by
  unfold Oper.quietAt at h
  have hv : ∀ n w', (execOp a.eval o).run P w = .ok n w' → ∃ u, n = .value u := by
    intro n w' hn
    obtain ⟨dst, op, type, pos, after, guard⟩ := o
    cases op <;> simp only [plain] at hp <;> try (exact absurd hp (by decide))
    case nilCheck x =>
      have pan : ∀ (k : Next) (w1 w2 : World), Sem.run P (runtimePanic (α := Next) .nilDeref) w1 = .ok k w2 → False := by
        intro k w1 w2 hk
        simp [runtimePanic, goPanic, Sem.run_bind, Sem.run, Result.andThen, program] at hk
      simp only [execOp] at hn
      split at hn
      · exact (pan _ _ _ hn).elim
      · exact (pan _ _ _ hn).elim
      · exact (pan _ _ _ hn).elim
      · split at hn
        · exact (pan _ _ _ hn).elim
        · simp only [Sem.run_bind] at hn
          revert hn
          generalize Sem.run P program w = r
          intro hn
          cases r with
          | halt x w1 => simp [Result.andThen] at hn
          | ok p w1 =>
            simp only [Result.andThen_ok] at hn
            revert hn
            generalize Sem.run P (nilAhead _ _ _ _) w1 = r
            intro hn
            cases r with
            | halt x w1 => simp [Result.andThen] at hn
            | ok q w2 =>
              simp only [Result.andThen_ok] at hn
              split at hn
              · simp [unsupported, Sem.run, Result.andThen] at hn
              · simp only [Sem.run_pure, Result.ok.injEq] at hn; exact ⟨_, hn.1.symm⟩
        · simp only [Sem.run_pure, Result.ok.injEq] at hn; exact ⟨_, hn.1.symm⟩
      · simp only [Sem.run_pure, Result.ok.injEq] at hn; exact ⟨_, hn.1.symm⟩
    case binOp op xt x y yt =>
      simp only [execOp, Sem.run_bind, Sem.run_pure] at hn
      revert hn
      generalize Sem.run P (eqGuard _ _ _ _ _ _) w = r
      intro hn
      cases r with
      | halt x w1 => simp [Result.andThen] at hn
      | ok q w1 =>
        simp only [Result.andThen_ok] at hn
        revert hn
        generalize Sem.run P (binOp _ _ _ _) w1 = r
        intro hn
        cases r with
        | ok u w1 => simp only [Result.andThen_ok, Result.ok.injEq] at hn; exact ⟨_, hn.1.symm⟩
        | halt x w1 => simp [Result.andThen] at hn
    all_goals
      first
        | (simp only [execOp, Sem.run_pure, Result.ok.injEq] at hn; exact ⟨_, hn.1.symm⟩)
        | (simp only [execOp, Sem.run_bind, Sem.run_pure] at hn
           revert hn
           generalize Sem.run P _ w = r
           intro hn
           cases r with
           | ok u w1 => simp only [Result.andThen_ok, Result.ok.injEq] at hn; exact ⟨_, hn.1.symm⟩
           | halt x w1 => simp [Result.andThen] at hn)
  generalize hr : (execOp a.eval o).run P w = r at *
  cases r with
  | ok n w' =>
    obtain ⟨u, rfl⟩ := hv n w' rfl
    obtain ⟨rfl, rfl⟩ := h
    rfl
  | halt x w' => exact absurd h (by simp [Oper.quietUpon])

/-- The first k operations come up in the text's order, each free to do so. -/
def headB (md : Region.Mode) (ops : Array Oper) : Nat → Nat → Array Bool → Bool
  | 0, _, _ => true
  | n + 1, k, listed => (Region.ready md ops listed).contains k && Region.free md ops listed k && headB md ops n (k + 1) (listed.setIfInBounds k true)

def listedFrom : Nat → Nat → Array Bool → Array Bool
  | 0, _, listed => listed
  | n + 1, k, listed => listedFrom n (k + 1) (listed.setIfInBounds k true)

theorem wpS_head (hs : Region.noSelect ops = true) (hQ : ∀ c (a : Act) (d : Option Tmp) (v : Value) w, Q (.panic c) (a.put d v) w → Q (.panic c) a w) {w : World} (hS : S w) (g : Nat) :
    ∀ (l : List Oper) (k : Nat) (listed : Array Bool) (a : Act), (∀ j o, l[j]? = some o → ops[k + j]? = some o) → (l.all fun o => plain o.op) = true →
    headB md ops l.length k listed = true → wpQuiet P ops S (fun a' => wpS P md ops Q S g (listedFrom l.length k listed) a' w) l a → wpS P md ops Q S (l.length + g) listed a w
  | [], _, _, _, _, _, _, h => by simpa [wpQuiet, listedFrom] using h
  | o :: l, k, listed, a, hl, hp, hB, h => by
    have h0 : ops[k]? = some o := by simpa using hl 0 o rfl
    simp only [List.length_cons, headB, Bool.and_eq_true] at hB
    obtain ⟨⟨hr, hf⟩, hB'⟩ := hB
    simp only [List.all_cons, Bool.and_eq_true] at hp
    have hst : qOp P ops S k (wpQuiet P ops S (fun a' => wpS P md ops Q S g (listedFrom l.length (k + 1) (listed.setIfInBounds k true)) a' w) l) a := by unfold qOp; simp only [h0]; exact h
    obtain ⟨v, hy, hK⟩ := yieldsIn_of_qOp h0 hst
    have hg : Gives P ops S o v a := by
      rcases hy with ⟨hw, hv⟩ | ⟨hw, hu⟩
      · exact .inl ⟨hw, fun w' hw' => plain_value hp.1 (hv w' hw')⟩
      · exact .inr ⟨hw, hu⟩
    rw [show (o :: l).length + g = (l.length + g) + 1 by simp only [List.length_cons]; omega]
    refine wpS_first h0 (Region.noSelect_spec hs) (fun c a w => hQ c a _ _ w) (l.length + g) listed a w (Region.free_spec h0 hf) (by simpa using hr) hg hS ?_
    exact wpS_head hs hQ hS g l (k + 1) _ _ (fun j o' hj => by have := hl (j + 1) o' (by simpa using hj); simpa [Nat.add_assoc, Nat.add_comm 1 j] using this) hp.2 hB' hK

/-- One operation alone may come up. -/
theorem wpS_one {i : Nat} {o : Oper} {fuel : Nat} {listed : Array Bool} {a : Act} {w : World} (hr : Region.ready md ops listed = [i]) (hi : ops[i]? = some o) (hw : o.guard = none)
    (h : ∀ K : Act → World → Prop, (∀ a' w', S w' → wpS P md ops Q S fuel (listed.setIfInBounds i true) a' w' → K a' w') → o.wp P a w K Q) : wpS P md ops Q S (fuel + 1) listed a w := by
  refine ⟨fun h0 => (by rw [hr] at h0; cases h0), fun j hj => ?_⟩
  rw [hr] at hj
  have hji : j = i := by simpa using hj
  subst hji
  unfold wpOp
  simp only [hi]
  rw [if_pos (by unfold Region.wanted; rw [hw])]
  exact .inl (h _ fun _ _ h1 h2 => ⟨h1, h2⟩)

theorem wpS_end {listed : Array Bool} {a : Act} {w : World} (hr : Region.ready md ops listed = []) (h : Q .normal a w) : wpS P md ops Q S 0 listed a w := ⟨hr, h⟩

/-- One append alone may come up, and it fits. -/
theorem wpS_append {i : Nat} {o : Oper} {fuel : Nat} {listed : Array Bool} {a : Act} {w : World} (hr : Region.ready md ops listed = [i]) (hi : ops[i]? = some o) (hw : o.guard = none)
    (s x : Operand) (t : TypeId) (hop : o.op = Op.call { callee := Callee.builtin Builtin.append, args := #[s, x], argTypes := #[t, t] })
    (base : Nat) (e : TypeId) (ti : TypeInfo) (size : Nat) (h1 : P.underlying t = some (.slice e)) (h2 : P.info? e = some ti) (h4 : ti.size = size)
    (g k cap : Nat) (xs : List Value) (hs : a.eval s = .slice (some ⟨g, 0, none⟩) k cap) (hown : w.ownsRow base e size (.slice (some ⟨g, 0, none⟩) k cap) k xs) (ad : Addr) (m c : Nat) (news : List Value) (hx : a.eval x = .slice (some ad) m c) (hn : news.length = m * size)
    (hc : ∀ j u, news[j]? = some u → w.cell? (ad.add j) = some u) (h1c : ∀ u ∈ news, u.oneCell' = true) (b1 : k + m ≤ cap)
    (hK : ∀ w', w'.ownsRow base e size (.slice (some ⟨g, 0, none⟩) (k + m) cap) (k + m) (xs ++ news) → w.grownBy w' (some g) →
      S w' ∧ wpS P md ops Q S fuel (listed.setIfInBounds i true) (a.put o.dst (.slice (some ⟨g, 0, none⟩) (k + m) cap)) w') : wpS P md ops Q S (fuel + 1) listed a w := by
  refine wpS_one hr hi hw fun K hK' => ?_
  obtain ⟨w', hrun, r1, r2⟩ := run_append_fits (P := P) w base t o.type e ti size h1 h2 h4 g k cap xs hown ad m c news hn hc h1c b1
  unfold Oper.wp
  simp [execOp, hop, resolve, invoke, builtin, hs, hx, hrun, Result.andThen]
  exact hK' _ _ (hK w' r1 r2).1 (hK w' r1 r2).2

/-- A REGION THAT DRAWS ITS ORDER: its first k operations (plain, quiet in the kind) are walked once, in the text's order; its tail from there. -/
theorem wp_region_head {ι : Type} (W : ι → World) (k : Nat) {id : Nat} {a : Act} {w : World} {l : List Oper} (hm : P.follows .mixedOrders = true) (hs : Region.noSelect l.toArray = true)
    (hk : k + (l.drop k).length = l.length) (hp : ((l.take k).all fun o => plain o.op) = true) (hB : headB .any l.toArray k 0 (Array.replicate l.length false) = true)
    (hQ : ∀ c (a : Act) (d : Option Tmp) (v : Value) w, Q (.panic c) (a.put d v) w → Q (.panic c) a w) (hS : ∃ x, w.drew = W x)
    (h : ∀ Q0 : Act → Prop, (∀ a', wpS P .any l.toArray Q (fun w' => ∃ x, w' = W x) (l.drop k).length (listedFrom k 0 (Array.replicate l.length false)) a' w.drew → Q0 a') → wpQuiet P l.toArray (fun w' => ∃ x, w' = W x) Q0 (l.take k) a) :
    (Code.region id l.toArray true).wp P Q a w := by
  have hlk : (l.take k).length = k := by simp at hk ⊢; omega
  refine wp_region_any hm (wpAny_of_wpS (S := fun w' => ∃ x, w' = W x) _ _ _ _ ?_)
  have := wpS_head (P := P) (ops := l.toArray) (md := .any) (Q := Q) (S := fun w' => ∃ x, w' = W x) hs hQ (w := w.drew) hS (l.drop k).length (l.take k) 0 (Array.replicate l.length false) a
    (fun j o hj => by
      have h2 : l[j]? = some o := by
        rw [List.getElem?_take] at hj
        split at hj
        · exact hj
        · cases hj
      simp [h2]) hp (by rw [hlk]; exact hB) (by rw [hlk]; exact h _ fun _ h => h)
  rw [hlk, hk] at this
  simpa using this

/-- The worlds in which two cells hold what they hold in w0, as a family. -/
theorem class2 (w0 : World) (a1 a2 : Addr) (v1 v2 : Value) (h1 : w0.cell? a1 = some v1) (h2 : w0.cell? a2 = some v2) :
    ∃ (ι : Type) (W : ι → World), Nonempty ι ∧ (∀ w', w'.cell? a1 = some v1 → w'.cell? a2 = some v2 → ∃ x, w' = W x) ∧ (∀ x, (W x).cell? a1 = some v1) ∧ ∀ x, (W x).cell? a2 = some v2 :=
  ⟨{ w' : World // w'.cell? a1 = some v1 ∧ w'.cell? a2 = some v2 }, fun x => x.1, ⟨⟨w0, h1, h2⟩⟩, fun w' g1 g2 => ⟨⟨w', g1, g2⟩, rfl⟩, fun x => x.2.1, fun x => x.2.2⟩

end
end Go.Proofs.Qxb6602356a.Law
