/-
  'Rows.LawS6678CWholeSaid' PROVED. The frame is the given shell's (written by program); the walk is filled in (YbulkehgwLead holds the plain law and the two callees).
-/
import Derived.Test.YbulkehgwRows
import Derived.Test.YbulkehgwLead
import Derived.Deep.QuietTactic
import Derived.BigQuiet
import Derived.WalkKit
import Derived.ProofKit
import Derived.OpenShut
import Derived.ShutString
namespace Go.Proofs.Ybulkehgw.lawS6678CWhole
open Go.ChangeShapes Go.WideShapes Go.ChangeAt Go.RowKit
open Go.ChangeMaps (open_string shut_string)
set_option linter.unusedVariables false      -- a walk need not use every 'w<i>' (that an integer argument fits its kind)

theorem own : ownKnob Yba.prog.godebug = none := by kernel_rfl

theorem hidMk {p : Prop} (h : p) : Hid p := h
/-! ### STEP 1: THE WALK: the Go text returns true. 'Grown w w'': the world has at most new blocks (Derived/RowKit3.lean). Part the cases AHEAD of 'go_enter' where a test parts the walk; take each callee by a contract of your own. -/
theorem walk (a0 : Int) (a1 : Int) (w0 : (Lit.int .i64 a0).wf = true) (w1 : (Lit.int .i64 a1).wf = true) (w : World) :
    Calls Yba.prog 4 #[.int .i64 a0, .int .i64 a1] w fun e w' => e = .returned (.bool true) ∧ Grown w w' := by
  obtain ⟨c0, e0⟩ : ∃ c, wrap64 (a0 * a1) = c := ⟨_, rfl⟩
  obtain ⟨c1, e1⟩ : ∃ c, wrap64 (wrap64 (c0 - a1) + 1028) = c := ⟨_, rfl⟩
  obtain ⟨c2, e2⟩ : ∃ c, wrap64 (wrap64 (wrap64 (c0 - a1) - a1) + 262148) = c := ⟨_, rfl⟩
  have HC : ∀ w, _ := fun w => Lead.costs_any a0 a1 c0 c1 c2 w e0 e1 e2
  have HL : ∀ w, _ := fun w => Lead.lead_any a0 a1 c0 c1 c2 w e0 (by rw [← Lead.cost1, e0, e1]) (by rw [← Lead.cost2, e0, e2])
  clear e0 e1 e2
  by_cases h1 : c1 < c0
  · by_cases h2 : c2 < c1
    · have hb : Lead.best c0 c1 c2 = 2 := by simp [Lead.best, h1, h2]
      rw [hb] at HL
      clear hb
      have HC' := hidMk HC
      have HL' := hidMk HL
      clear HC HL
      go_enter Yba.func4, Yba.ntmps4
      go_wp2_with fail
      refine (HC'.out _).mono ?_
      rintro e w1 ⟨rfl, rfl⟩
      go_wp2_with fail
      go_region
      go_wp2_with fail
      go_region
      go_wp2_with fail
      refine (HL'.out _).mono ?_
      rintro e w1 ⟨rfl, rfl⟩
      go_wp2
      go_ret
      exact ⟨rfl, by repeat (first | exact Grown.refl _ | apply Grown.drew | apply Grown.alloc)⟩
    · have hb : Lead.best c0 c1 c2 = 1 := by simp [Lead.best, h1, h2]
      rw [hb] at HL
      clear hb
      have HC' := hidMk HC
      have HL' := hidMk HL
      clear HC HL
      go_enter Yba.func4, Yba.ntmps4
      go_wp2_with fail
      refine (HC'.out _).mono ?_
      rintro e w1 ⟨rfl, rfl⟩
      go_wp2_with fail
      go_region
      go_wp2_with fail
      go_region
      go_wp2_with fail
      refine (HL'.out _).mono ?_
      rintro e w1 ⟨rfl, rfl⟩
      go_wp2
      go_ret
      exact ⟨rfl, by repeat (first | exact Grown.refl _ | apply Grown.drew | apply Grown.alloc)⟩
  · by_cases h2 : c2 < c0
    · have hb : Lead.best c0 c1 c2 = 2 := by simp [Lead.best, h1, h2]
      rw [hb] at HL
      clear hb
      have HC' := hidMk HC
      have HL' := hidMk HL
      clear HC HL
      go_enter Yba.func4, Yba.ntmps4
      go_wp2_with fail
      refine (HC'.out _).mono ?_
      rintro e w1 ⟨rfl, rfl⟩
      go_wp2_with fail
      go_region
      go_wp2_with fail
      refine (HL'.out _).mono ?_
      rintro e w1 ⟨rfl, rfl⟩
      go_wp2
      go_ret
      exact ⟨rfl, by repeat (first | exact Grown.refl _ | apply Grown.drew | apply Grown.alloc)⟩
    · have hb : Lead.best c0 c1 c2 = 0 := by simp [Lead.best, h1, h2]
      rw [hb] at HL
      clear hb
      have HC' := hidMk HC
      have HL' := hidMk HL
      clear HC HL
      go_enter Yba.func4, Yba.ntmps4
      go_wp2_with fail
      refine (HC'.out _).mono ?_
      rintro e w1 ⟨rfl, rfl⟩
      go_wp2_with fail
      go_region
      go_wp2_with fail
      refine (HL'.out _).mono ?_
      rintro e w1 ⟨rfl, rfl⟩
      go_wp2
      go_ret
      exact ⟨rfl, by repeat (first | exact Grown.refl _ | apply Grown.drew | apply Grown.alloc)⟩

/-! ### THE ROW's STEP: WRITTEN OUT: LEAVE IT -/
set_option maxRecDepth 100000 in
theorem lifted (os : Os) (started : os.Started) (H : Type) (enc : TypeId × Value → H) :
    ReturnsInHanded {} Yba.checked os 4 .any (Rows.lawS6678CWholeSpec.pre6 enc Yba.prog Yba.f4 Rows.lawS6678CWholeRow.domain false) (Rows.lawS6678CWholeSpec.post enc Yba.prog Yba.f4 false true false false) := by
  refine returnsInHanded_of_change (C := Yba.checked) own started (by kernel_rfl) Yba.func4
    (ChangeSpec.witness6 (enc := enc) (C := Yba.checked) false ⟨#[], #[.int .i64 0, .int .i64 0], []⟩ 8 (by kernel_rfl) (by kernel_rfl) (by kernel_rfl) (by kernel_rfl)) ?_
  intro W base args ds gs before hval0 hW hcnd _
  have hval : ∀ (j : Nat) t v, Yba.f4.params[j]? = some t → args[j]? = some v → Value.okWide Yba.prog W .any base t v := hval0
  have hW' := hW
  obtain ⟨p, q, hA0, hV, rfl, hfz, hnd⟩ := hW
  have hA : DataW.TrodAll enc Yba.prog W 0 (fun _ => true) true Yba.f4.params.toList args.toList ds p := hA0
  rw [Yba.params4] at hA hval
  obtain ⟨v0, vs0, d0, ds0, p0, q0, hargs, rfl, rfl, h0, r0⟩ := trodAll_cons hA
  obtain ⟨v1, vs1, d1, ds1, p1, q1, rfl, rfl, rfl, h1, r1⟩ := trodAll_cons r0
  obtain ⟨rfl, rfl, rfl⟩ := trodAll_nil r1
  obtain rfl : args = #[v0, v1] := by cases args; simp_all
  obtain ⟨rfl, rfl⟩ := trodVars_none hV
  obtain ⟨a0, rfl, rfl, rfl, w0⟩ := open_int Yba.underlying3 (hval 0 3 v0 rfl rfl) h0
  obtain ⟨a1, rfl, rfl, rfl, w1⟩ := open_int Yba.underlying3 (hval 1 3 v1 rfl rfl) h1
  clear hA0 hval0
  simp only [List.append_nil] at hW'
  refine (walk a0 a1 w0 w1 W).mono fun e W' ⟨he, hg⟩ => ?_
  subst he
  exact ⟨_, rfl, post_of_same (pa := []) (pv := []) hW' (fun _ _ _ => (trodAll_cons_mk (shut_bool Yba.underlying4 _) trodAll_mk0)) (fun sp _ => (trodAll_cons_mk (shut_int Yba.underlying3 w0) (trodAll_cons_mk (shut_int Yba.underlying3 w1) trodAll_mk0))) (fun _ _ => rfl) rfl
    (hg.frame _) hg.2.1 (ok_one (by kernel_rfl) rfl (okWide_bool_mk Yba.underlying4 _))⟩

theorem over : Rows.lawS6678CWholeRow.holds Yba.pinned (OpenSpec.ofChange Rows.lawS6678CWholeSpec) :=
  OpenClaim.holds_of_wide 4 Yba.f4 rfl rfl rfl rfl rfl rfl rfl ⟨rfl, rfl, rfl, rfl, rfl⟩ rfl rfl rfl rfl rfl (by kernel_rfl) Yba.func4 (by kernel_rfl)
    (of_decide_eq_true (by kernel_rfl)) (by unfold Func.isWrapper; first | (rw [if_pos (by decide +kernel)]; kernel_rfl) | (rw [if_neg (by decide +kernel)]; exact ⟨rfl, rfl⟩))
    (fun os started H enc _ => lifted os started H enc)

/-- ████ THE STATEMENT ████ -/
theorem proved : Rows.LawS6678CWholeSaid :=
  over
#print axioms proved
end Go.Proofs.Ybulkehgw.lawS6678CWhole
