/-
  A range over a function whose iterator keeps state in cells: the statement's law (at the widest fence), and one round of copy's loop.
-/
import Derived.Test.YbulkehgwChk
namespace Go.Proofs.Ybulkehgw.Rng
open Go.RowKit Pl Mem Bld AddZ AddL Grp Chk

/-- The loop's record. -/
def rec (fn : FuncId) (tmps : Array Value) (ps : Array Tmp) (assign body : Code) (D : Nat) (st : LoopState) (pe : Option Code) : Loop := { state := st, pending := pe, fn, tmps, params := ps, assign, body, defers := D }

theorem range_st {P : Program} {g : Operand} {ps : Array Tmp} {assign body : Code} {Q : Exit → Act → World → Prop} {a : Act} {w : World} {gf : Nat} {lb : Array Value} (hg : a.eval g = .func (.func gf) #[] lb) (eg : ∀ args w, (callFunc gf args).run P w = .ok (.enter gf args) w) (C : World → Prop)
    (hseq : ∀ fn r, r = rec fn a.tmps ps assign body w.heap.size .ready none → ∀ W1, W1 = (w.alloc (.deferred (some []))).alloc (.loop r) →
      Calls P gf (#[.func (.yield (w.heap.size + 1)) #[] #[]] ++ lb) W1 fun e W2 => (∃ v, e = .returned v) ∧ C W2 ∧ W2.heap[w.heap.size + 1]? = some (.loop r) ∧ W2.heap[w.heap.size]? = some (.deferred (some [])))
    (hdone : ∀ W2 W3, C W2 → W2.grownBy W3 (some (w.heap.size + 1)) → W3.heap[w.heap.size]? = some (.deferred (some [])) → Q .normal { a with defers := { target := .collected w.heap.size, args := #[] } :: a.defers } W3) :
    (Code.rangeFunc g ps assign body).wp P Q a w := by
  refine (wpIn_wide (n := 1)).1 ?_
  refine wpIn_rangeFunc ?_
  intro fn _
  obtain ⟨W1, hW1⟩ : ∃ W1, (w.alloc (.deferred (some []))).alloc (.loop (rec fn a.tmps ps assign body w.heap.size .ready none)) = W1 := ⟨_, rfl⟩
  refine ⟨w.heap.size + 1, [{ target := .collected w.heap.size, args := #[] }], W1, { target := .fn (.func gf) lb, args := #[.func (.yield (w.heap.size + 1)) #[] #[]] }, W1, gf, #[.func (.yield (w.heap.size + 1)) #[] #[]] ++ lb, W1, by rw [← hW1]; exact run_enterLoop_outer _ _ _ _ _, ?_, fun _ _ => trivial, ?_, fun _ => Nat.le_refl _, ?_⟩
  · simp only [resolve, hg]
    simp [go_sem]
  · simp [invoke, go_sem, eg]
  · refine callsIn_wide.2 ((hseq fn _ rfl W1 hW1.symm).mono ?_)
    rintro e W2 ⟨⟨v, rfl⟩, hC, hl, hd⟩
    exact ⟨none, _, run_endLoop hl (by simp [rec]), hdone W2 _ hC (grownBy_putObj' _ _ _) ((World.putObj_heap_other (by omega)).trans hd)⟩

/-- One round, out of the walk of its body in a round's frame. -/
theorem round_st {P : Program} {fn : FuncId} {tmps : Array Value} {ps : Array Tmp} {assign body : Code} {l D : Nat} {args : Array Value} {W : World} {R : World → Prop} {r : Loop} (hr : r = rec fn tmps ps assign body D .ready none) (hl : W.heap[l]? = some (.loop r)) (hs : args.size = ps.size) (a₁ : Act)
    (hassign : ∀ (K : Act → World → Prop), K a₁ W → assign.wpIn (Fence.wide.inRound l) 0 P (Exit.then K (fun _ _ _ => False)) { tmps := (ps.zip args).foldl (fun t (p, v) => t.setIfInBounds p v) tmps, defers := [] } W)
    (hbody : body.wpIn (Fence.wide.inRound l) 0 P (fun x _ W' => x = .normal ∧ W'.heap[l]? = some (.loop { r with state := .busy }) ∧ R (W'.putObj l (.loop r))) a₁ (W.putObj l (.loop { r with state := .busy }))) :
    YieldAt Fence.wide 0 P l args W fun x W' => x = .returned (.bool true) ∧ R W' := by
  subst hr
  refine ⟨fn, _, assign, body, run_yield hl (by simpa [rec] using hs), roundIn_of_wpIn trivial (hassign _ ⟨_, run_beginRound hl rfl, ?_⟩)⟩
  refine wpIn_mono hbody ?_
  rintro e a3 W3 ⟨rfl, hl3, hR⟩
  exact ⟨_, _, run_endRound none hl3, rfl, hR⟩
end Go.Proofs.Ybulkehgw.Rng
