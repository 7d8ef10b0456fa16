/-
  'Rows.LawS6677BWholeSaid' PROVED. The frame is the given shell's (written by program), its last step turned from 'Grown' to 'Below'; the walk is filled in: both functions hand back the text and the rest that the plain law 'qt' tells (YbulkehgiQuoted, YbulkehgiBee).
-/
import Derived.Test.YbulkehgiRows
import Derived.Test.YbulkehgiBee
import Derived.WalkKit
import Derived.ProofKit
import Derived.OpenShut
import Derived.ShutString
import Derived.ChangeOld
import Derived.Below
namespace Go.Proofs.Ybulkehgi.lawS6677BWhole
open Go.ChangeShapes Go.WideShapes Go.ChangeAt Go.RowKit
open Go.ChangeMaps (open_string shut_string)
set_option linter.unusedVariables false      -- a walk need not use every 'w<i>' (that an integer argument fits its kind)

theorem own : ownKnob Yba.prog.godebug = none := by kernel_rfl

/-! ### STEP 1: THE WALK -/
set_option maxHeartbeats 400000 in
theorem walk (a0 : ByteArray) (w0 : a0.size ≤ maxLen) (w : World) :
    Calls Yba.prog 4 #[.string a0] w fun e w' => e = .returned (.bool true) ∧ Below w.heap.size w w' := by
  unfold maxLen at w0
  by_cases h0 : a0.size = 0
  · have t0 : ((a0.size : Int) == 0) = true := by rw [beq_iff_eq]; omega
    clear h0
    go_enter Yba.func4, Yba.ntmps4
    go_wp2
    go_ret
    exact ⟨rfl, Below.refl _ _⟩
  have t0 : ((a0.size : Int) == 0) = false := by rw [beq_eq_false_iff_ne]; omega
  by_cases h1 : 1048576 < a0.size
  · have t1 : (1048576 : Int) < (a0.size : Int) := by omega
    go_enter Yba.func4, Yba.ntmps4
    go_wp2
    go_ret
    exact ⟨rfl, Below.refl _ _⟩
  have t1 : ¬ (1048576 : Int) < (a0.size : Int) := by omega
  go_enter Yba.func4, Yba.ntmps4
  go_wp2_with fail
  refine (Bee.cut_any a0 _ (by omega) (by omega)).mono ?_
  rintro e1 w1 ⟨q1, b1⟩
  obtain ⟨t, r, rfl, p1⟩ := q1
  have Q1 : Bee.Ans2 a0 (.returned (.tuple #[.string t, .string r])) := ⟨t, r, rfl, p1⟩
  clear p1
  go_wp2_with fail
  refine (Bee.model_any a0 _ (by omega) (by omega)).mono ?_
  rintro e2 w2 ⟨q2, b2⟩
  obtain ⟨t', r', h1', h2'⟩ := Bee.same_strings Q1 q2
  simp only [Ending.returned.injEq, Value.tuple.injEq] at h1'
  subst h2'
  obtain ⟨rfl, rfl⟩ : t = t' ∧ r = r' := by simpa using h1'
  clear h1' Q1 q2
  go_wp2
  go_ret
  exact ⟨by simp, b1.trans (b2.mono b1.size)⟩

/-! ### THE ROW's STEP: WRITTEN OUT: LEAVE IT -/
set_option maxRecDepth 100000 in
theorem lifted (os : Os) (started : os.Started) (H : Type) (enc : TypeId × Value → H) :
    ReturnsInHanded {} Yba.checked os 4 .any (Rows.lawS6677BWholeSpec.pre6 enc Yba.prog Yba.f4 Rows.lawS6677BWholeRow.domain false) (Rows.lawS6677BWholeSpec.post enc Yba.prog Yba.f4 false true false false) := by
  refine returnsInHanded_of_change (C := Yba.checked) own started (by kernel_rfl) Yba.func4
    (ChangeSpec.witness6 (enc := enc) (C := Yba.checked) false ⟨#[], #[.string ByteArray.empty], []⟩ 8 (by kernel_rfl) (by kernel_rfl) (by kernel_rfl) (by kernel_rfl)) ?_
  intro W base args ds gs before hval0 hW hcnd _
  have hval : ∀ (j : Nat) t v, Yba.f4.params[j]? = some t → args[j]? = some v → Value.okWide Yba.prog W .any base t v := hval0
  have hW' := hW
  obtain ⟨p, q, hA0, hV, rfl, hfz, hnd⟩ := hW
  have hA : DataW.TrodAll enc Yba.prog W 0 (fun _ => true) true Yba.f4.params.toList args.toList ds p := hA0
  rw [Yba.params4] at hA hval
  obtain ⟨v0, vs0, d0, ds0, p0, q0, hargs, rfl, rfl, h0, r0⟩ := trodAll_cons hA
  obtain ⟨rfl, rfl, rfl⟩ := trodAll_nil r0
  obtain rfl : args = #[v0] := by cases args; simp_all
  obtain ⟨rfl, rfl⟩ := trodVars_none hV
  obtain ⟨a0, rfl, rfl, rfl, w0⟩ := open_string Yba.underlying9 (hval 0 9 v0 rfl rfl) h0
  clear hA0 hval0
  refine (walk a0 w0 W).mono fun e W' ⟨he, bel⟩ => ?_
  subst he
  exact ⟨_, rfl, _, _, _, [], _, [], hW', trodAll_mk1 (shut_bool Yba.underlying4 _), (trodAll_cons_mk (shut_string Yba.underlying9 w0) trodAll_mk0), rfl, bel.frame _, fun h => by cases h⟩

theorem over : Rows.lawS6677BWholeRow.holds Yba.pinned (OpenSpec.ofChange Rows.lawS6677BWholeSpec) :=
  OpenClaim.holds_of_wide 4 Yba.f4 rfl rfl rfl rfl rfl rfl rfl ⟨rfl, rfl, rfl, rfl, rfl⟩ rfl rfl rfl rfl rfl (by kernel_rfl) Yba.func4 (by kernel_rfl)
    (of_decide_eq_true (by kernel_rfl)) (by unfold Func.isWrapper; first | (rw [if_pos (by decide +kernel)]; kernel_rfl) | (rw [if_neg (by decide +kernel)]; exact ⟨rfl, rfl⟩))
    (fun os started H enc _ => lifted os started H enc)

/-- ████ THE STATEMENT ████ -/
theorem proved : Rows.LawS6677BWholeSaid :=
  over
#print axioms proved
end Go.Proofs.Ybulkehgi.lawS6677BWhole
