/-
  A region that draws its order, loads and one round of a range over a function in it: what is read is taken first, in whatever order it comes up (at the widest fence).
-/
import Derived.OrdersHeld
import Derived.OrdersIn
namespace Go.Proofs.Ybulkehgw.Held
open Go
variable {n : Nat} {P : Program} {ops : Array Oper} {Q : Exit → Act → World → Prop} {md : Region.Mode} {S : World → Prop}

theorem wide_fn {x : Option FuncId} : ∀ f, x = some f → Fence.wide.fn f := fun _ _ => trivial

theorem yields_op {i : Nat} {o : Oper} {v : Value} {a : Act} (hi : ops[i]? = some o) (hy : YieldsIf P ops S o v a)
    {K : Act → World → Prop} {w : World} (hS : S w) (h : K (a.put o.dst v) w) : wpOpIn Fence.wide n P ops Q i K a w := by
  unfold wpOpIn
  simp only [hi]
  rcases hy with ⟨hw, hv⟩ | ⟨hw, rfl⟩
  · simp only [hw, if_true, Oper.wpIn, show Fence.wide.round = none from rfl, Oper.semAt_none, hv w hS, Oper.uponIn]; exact ⟨wide_fn, h⟩
  · simp only [hw, Bool.false_eq_true, if_false]; exact ⟨wide_fn, h⟩

theorem op_putIf {j : Nat} {oi oj : Oper} {v : Value} (hj : ops[j]? = some oj) (hap : oi.apart ops oj = true)
    (hsi : ∀ cs b, oi.op ≠ .select cs b) (hsj : ∀ cs b, oj.op ≠ .select cs b)
    (hQ : ∀ c a w, Q (.panic c) (a.put oi.dst v) w → Q (.panic c) a w) {K : Act → World → Prop} {a : Act} {w : World}
    (hy : YieldsIf P ops S oi v a) (h : wpOpIn Fence.wide n P ops Q j K (a.put oi.dst v) w) :
    wpOpIn Fence.wide n P ops Q j (fun a' w' => YieldsIf P ops S oi v a' ∧ K (a'.put oi.dst v) w') a w := by
  obtain ⟨h1, h2, h3⟩ := Oper.apart_spec hap
  have keep : ∀ (a : Act), YieldsIf P ops S oi v a → ∀ u, YieldsIf P ops S oi v (a.put oj.dst u) := fun a hy u =>
    hy.of_same (execOp_put oi hsi a oj.dst u h3) (wanted_put oi a oj.dst u h3)
  have keepD : ∀ d, YieldsIf P ops S oi v { a with defers := d :: a.defers } := fun d => hy.of_same rfl rfl
  have hro : Fence.wide.round = none := rfl
  unfold wpOpIn at *
  simp only [hj] at *
  rw [wanted_put oj a oi.dst v h1] at h
  split
  · rename_i hw
    simp only [hw, if_true] at h
    unfold Oper.wpIn at *
    refine ⟨wide_fn, ?_⟩
    have h := h.2
    rw [hro, Oper.semAt_none, execOp_put oj hsj a oi.dst v h1] at h
    rw [hro, Oper.semAt_none]
    generalize (execOp a.eval oj).run P w = r at *
    cases r with
    | ok x w' =>
      cases x <;> simp only [Oper.uponIn] at h ⊢
      case value u => exact ⟨keep a hy u, by rw [← Act.put_comm a v u h2]; exact h⟩
      case skip => exact ⟨keep a hy _, by rw [← Act.put_comm a v undef h2]; exact h⟩
      case defer d =>
        refine ⟨keep _ (keepD d) _, ?_⟩
        rw [← Act.put_comm _ v undef h2, ← Act.put_defers]
        exact h
      case enter f args =>
        refine ⟨h.1, CallsIn.mono h.2 fun e w'' he => ?_⟩
        cases e with
        | returned u => exact ⟨keep a hy u, by rw [← Act.put_comm a v u h2]; exact he⟩
        | panicked c => exact hQ _ _ _ he
        | outgrown => exact he
      case row row args => exact ⟨h.1, RowsIn.mono h.2 fun u w'' he => ⟨keep a hy u, by rw [← Act.put_comm a v u h2]; exact he⟩⟩
      case round l f tmps assign body =>
        refine ⟨h.1, RoundIn.mono h.2 fun e w'' he => ?_⟩
        cases e with
        | returned u => exact ⟨keep a hy u, by rw [← Act.put_comm a v u h2]; exact he⟩
        | panicked c => exact hQ _ _ _ he
        | outgrown => exact he
    | halt x w' =>
      cases x <;> simp only [Oper.uponIn] at h ⊢
      case panic u => exact hQ _ _ _ h
  · rename_i hw
    simp only [hw] at h
    exact ⟨wide_fn, keep a hy _, by rw [← Act.put_comm a v undef h2]; exact h.2⟩

/-- Whatever order is picked from here on; S holds behind every operation. -/
def AnyH (n : Nat) (P : Program) (md : Region.Mode) (ops : Array Oper) (Q : Exit → Act → World → Prop) (S : World → Prop) : Nat → Array Bool → Act → World → Prop
  | 0, listed, a, w => Region.ready md ops listed = [] ∧ Q .normal a w
  | fuel + 1, listed, a, w =>
    (Region.ready md ops listed = [] → Q .normal a w) ∧
    ∀ i ∈ Region.ready md ops listed, wpOpIn Fence.wide n P ops Q i (fun a' w' => S w' ∧ AnyH n P md ops Q S fuel (listed.setIfInBounds i true) a' w') a w
theorem any_of : ∀ (fuel : Nat) (listed : Array Bool) (a : Act) (w : World), AnyH n P md ops Q S fuel listed a w → wpAnyIn Fence.wide n P md ops Q fuel listed a w
  | 0, _, _, _, h => h
  | fuel + 1, _, _, _, h => ⟨h.1, fun i hi => wpOpIn_mono (fun a' w' h' => any_of fuel _ a' w' h'.2) (h.2 i hi)⟩
theorem any_first {i : Nat} {oi : Oper} {v : Value} (hi : ops[i]? = some oi) (hsel : ∀ (j : Nat) (o : Oper) cs b, ops[j]? = some o → o.op ≠ .select cs b)
    (hQ : ∀ c a w, Q (.panic c) (a.put oi.dst v) w → Q (.panic c) a w) :
    ∀ (fuel : Nat) (listed : Array Bool) (a : Act) (w : World),
      (∀ j oj, ops[j]? = some oj → j ≠ i → listed.getD j true = false → (∀ e ∈ oj.after, Region.binds md e = true → e.on ≠ i) → oi.apart ops oj = true) →
      i ∈ Region.ready md ops listed → YieldsIf P ops S oi v a → S w →
      AnyH n P md ops Q S fuel (listed.setIfInBounds i true) (a.put oi.dst v) w → AnyH n P md ops Q S (fuel + 1) listed a w := by
  intro fuel
  induction fuel with
  | zero =>
    intro listed a w _ hr hy hS H
    refine ⟨fun h => (by rw [h] at hr; cases hr), fun j hj => ?_⟩
    by_cases hji : j = i
    · subst hji; exact yields_op hi hy hS ⟨hS, H⟩
    · have := ready_mono hj hji
      rw [H.1] at this
      cases this
  | succ fuel ih =>
    intro listed a w hfree hr hy hS H
    refine ⟨fun h => (by rw [h] at hr; cases hr), fun j hj => ?_⟩
    by_cases hji : j = i
    · subst hji; exact yields_op hi hy hS ⟨hS, H⟩
    · have h1 := H.2 j (ready_mono hj hji)
      obtain ⟨hjun, oj, hoj, hall⟩ := mem_ready.1 hj
      have hnot : ∀ e ∈ oj.after, Region.binds md e = true → e.on ≠ i := fun e he hb heq => by
        have h1 := hall e he hb
        have h0 := (mem_ready.1 hr).1
        rw [heq] at h1
        rcases Nat.lt_or_ge i listed.size with h' | h'
        · simp [h'] at h0 h1; rw [h0] at h1; cases h1
        · simp [Array.getElem?_eq_none h'] at h1
      have h2 := op_putIf hoj (hfree j oj hoj hji hjun hnot) (fun cs b => hsel i oi cs b hi) (fun cs b => hsel j oj cs b hoj) hQ hy h1
      have hfree' : ∀ k ok, ops[k]? = some ok → k ≠ i → (listed.setIfInBounds j true).getD k true = false →
          (∀ e ∈ ok.after, Region.binds md e = true → e.on ≠ i) → oi.apart ops ok = true := fun k ok hk hki hun hno => by
        refine hfree k ok hk hki ?_ hno
        by_cases hjk : j = k
        · subst hjk; exact hjun
        · rw [getD_set_ne true hjk] at hun; exact hun
      refine wpOpIn_mono (fun a' w' h3 => ?_) h2
      have hri : i ∈ Region.ready md ops (listed.setIfInBounds j true) := ready_mono hr (Ne.symm hji)
      refine ⟨h3.2.1, ih (listed.setIfInBounds j true) a' w' hfree' hri h3.1 h3.2.1 ?_⟩
      rw [Array.setIfInBounds_comm _ _ hji]
      exact h3.2.2
theorem any_take {i : Nat} {oi : Oper} {v : Value} {fuel : Nat} {listed : Array Bool} {a : Act} {w : World} (hi : ops[i]? = some oi)
    (hs : Region.noSelect ops = true) (hf : Region.free md ops listed i = true) (hr : (Region.ready md ops listed).contains i = true)
    (hQ : ∀ c a w, Q (.panic c) (a.put oi.dst v) w → Q (.panic c) a w) (hy : YieldsIf P ops S oi v a) (hS : S w)
    (h : AnyH n P md ops Q S fuel (listed.setIfInBounds i true) (a.put oi.dst v) w) : AnyH n P md ops Q S (fuel + 1) listed a w :=
  any_first hi (Region.noSelect_spec hs) hQ fuel listed a w (Region.free_spec hi hf) (by simpa using hr) hy hS h
theorem any_last {i : Nat} {o : Oper} {fuel : Nat} {listed : Array Bool} {a : Act} {w : World} (hr : Region.ready md ops listed = [i]) (ho : ops[i]? = some o) (hwt : Region.wanted o (yielded ops a.tmps) = true) (hr2 : Region.ready md ops (listed.setIfInBounds i true) = [])
    (h : Oper.wpIn Fence.wide n P o a w (fun a' w' => S w' ∧ Q .normal a' w') Q) : AnyH n P md ops Q S (fuel + 1) listed a w := by
  refine ⟨fun h0 => (by rw [hr] at h0; cases h0), fun j hj => ?_⟩
  rw [hr] at hj
  obtain rfl := List.mem_singleton.1 hj
  unfold wpOpIn
  simp only [ho, hwt, if_true]
  refine Oper.wpIn_mono (fun a' w' hh => ⟨hh.1, ?_⟩) h
  cases fuel with
  | zero => exact ⟨hr2, hh.2⟩
  | succ f => exact ⟨fun _ => hh.2, by rw [hr2]; simp⟩
theorem region_held {id : Nat} {a : Act} {w : World} (hm : P.follows .mixedOrders = true)
    (h : AnyH n P .any ops Q S ops.size (Array.replicate ops.size false) a { w with drawn := w.drawn + 1 }) : (Code.region id ops true).wp P Q a w :=
  (wpIn_wide (n := n)).1 (wpIn_region_any hm (any_of _ _ _ _ h))
end Go.Proofs.Ybulkehgw.Held
