/-
  'Rows.LawS6677CBuiltSaid' PROVED. The frame is the given shell's (written by program); the walk is filled in.
-/
import Derived.Test.YbulkehgiRows
import Derived.Test.YbulkehgiCee
import Derived.Laws.BytesArg
import Derived.WalkKit
import Derived.ProofKit
import Derived.OpenShut
import Derived.ShutString
import Derived.ChangeOld
import Derived.Below
namespace Go.Proofs.Ybulkehgi.lawS6677CBuilt
open Go.ChangeShapes Go.WideShapes Go.ChangeAt Go.RowKit
open Go.ChangeMaps (open_string shut_string)
set_option linter.unusedVariables false

theorem own : ownKnob Yba.prog.godebug = none := by kernel_rfl
theorem laidOut : laidOutB Yba.prog = true := by kernel_rfl

/-- WHAT THE WALK IS TOLD OF A SLICE OF INTEGERS THAT CAME IN: it is nil; or it leads to a row of 'cap' cells, the numbers 'zs' (the first 'len' are its elements, the rest its spare room), each fitting its kind. -/
def IsRow (k : IntKind) (w : World) (a : Option Addr) (len cap : Nat) (zs : List Int) : Prop :=
  (a = none ∧ len = 0 ∧ cap = 0 ∧ zs = []) ∨
  ∃ x, a = some x ∧ len ≤ cap ∧ cap ≤ maxLen ∧ zs.length = cap ∧ (∀ i, i < zs.length → w.cell? (x.add i) = some (.int k (zs.getD i 0))) ∧ ∀ n ∈ zs, (Lit.int k n).wf = true

/-! ### A row of bytes of the call's own: what they are does not matter -/
def BRow (W : World) (g l : Nat) : Prop := ∃ zs : List Int, zs.length = l ∧ ∀ i, i < l → W.cell? ⟨g, i, none⟩ = some (.int .u8 (zs.getD i 0)) ∧ W.frozen? ⟨g, i, none⟩ = false

theorem BRow.at {W : World} {g l : Nat} (h : BRow W g l) (i : Nat) (hi : i < l) : ∃ z, W.cell? ⟨g, i, none⟩ = some (.int .u8 z) ∧ W.frozen? ⟨g, i, none⟩ = false := by
  obtain ⟨zs, _, hc⟩ := h
  exact ⟨_, hc i hi⟩
theorem BRow.set {W : World} {g l : Nat} (h : BRow W g l) (i : Nat) (hi : i < l) (z : Int) : BRow (W.setCell ⟨g, i, none⟩ (.int .u8 z)) g l := by
  obtain ⟨zs, hl, hc⟩ := h
  refine ⟨zs.set i z, by simpa using hl, fun j hj => ⟨?_, by rw [World.frozen?_setCell]; exact (hc j hj).2⟩⟩
  by_cases e : j = i
  · subst e
    rw [World.cell?_setCell_same (h := (hc j hj).1)]
    simp [List.getD, show j < zs.length by omega]
  · rw [World.cell?_setCell_other (h := by simp), (hc j hj).1]
    simp [List.getD, show ¬ i = j by omega]
theorem BRow.str {W : World} {g l : Nat} (h : BRow W g l) : ∃ s : ByteArray, s.size = l ∧ ∀ c, (convert 48 9 (.slice (some ⟨g, 0, none⟩) l c)).run Yba.prog W = .ok (.string s) W := by
  obtain ⟨zs, hl, hc⟩ := h
  refine ⟨strOfNums zs, by rw [strOfNums_size, hl], fun c => ?_⟩
  exact run_convert_bytes_arg W 48 5 Yba.underlying48 Yba.underlying5 g 0 l c zs hl (fun i hi => by simpa using (hc i hi).1) 9 Yba.underlying9

theorem BRow.made {W : World} {base g l : Nat} (h : W.ownsRow base 5 1 (.slice (some ⟨g, 0, none⟩) l l) l (madeCells #[Value.int .u8 0] l).toList) : BRow W g l := by
  refine ⟨List.replicate l 0, by simp, fun i hi => ⟨?_, ?_⟩⟩
  · rw [h.cellAt i (by omega), toList_madeCells_one]
    simp [List.getD, hi]
  · exact h.frozenAt i

theorem BRow.strs {W : World} {g l : Nat} (h : BRow W g l) (i : Nat) (hi : i < l) : ∃ S : Int → ByteArray, (∀ v, (S v).size = l) ∧ ∀ v c, (convert 48 9 (.slice (some ⟨g, 0, none⟩) l c)).run Yba.prog (W.setCell ⟨g, i, none⟩ (.int .u8 v)) = .ok (.string (S v)) (W.setCell ⟨g, i, none⟩ (.int .u8 v)) :=
  ⟨fun v => Classical.choose (h.set i hi v).str, fun v => (Classical.choose_spec (h.set i hi v).str).1, fun v => (Classical.choose_spec (h.set i hi v).str).2⟩

theorem Yba.info5 : (Yba.prog.info? 5).map (fun i => (i.zero, i.size, i.bytes)) = some (some (.int .u8 0), 1, 1) := by kernel_rfl

/-! ### STEP 1: THE WALK -/
set_option maxHeartbeats 1000000 in
set_option maxRecDepth 100000 in
theorem walk0 (a0 : Option Addr) (cap0 : Nat) (a1 : Int) (a2 : Int) (w : World) (w1 : (Lit.int .u16 a1).wf = true) (w2 : (Lit.int .u8 a2).wf = true) : Calls Yba.prog 6 #[.slice a0 0 cap0, .int .u16 a1, .int .u8 a2] w fun e w' => e = .returned (.bool true) ∧ Below w.heap.size w w' := by
  obtain ⟨i0, hi, hz0, hz1, hz2⟩ := info_parts Yba.info5
  obtain ⟨hn0, hn1⟩ : 0 ≤ a1 ∧ a1 ≤ 65535 := bounds_u16 w1
  obtain ⟨ht0, ht1⟩ : 0 ≤ a2 ∧ a2 ≤ 255 := bounds_u8 w2
  obtain ⟨l, hl, hlt⟩ : ∃ l : Nat, (a1 % 320) = (l : Int) ∧ l < 320 := ⟨(a1 % 320).toNat, by omega, by omega⟩
  go_enter Yba.func6, Yba.ntmps6
  go_wp2_with (at_make; refine wpList_make_full _ rfl _ _ 48 rfl w.heap.size 5 i0 (.int .u8 0) 1 Yba.underlying48 hi hz0 hz1 _ _ _ _ l rfl rfl ?_ ?_ ?_ ?_ ?_ ?_)
  · exact hl
  · exact hl
  · rw [hz2]; omega
  · unfold maxLen; omega
  · omega
  intro wm hown hgr
  have hrow := BRow.made hown
  have hbel : Below w.heap.size w wm := (Below.refl _ _).grown hgr (Nat.le_refl _) (fun _ h => by cases h)
  clear hown hgr hi hz0 hz1 hz2
  go_wp2
  go_loopw [9] (fun i wr => ∃ k : Nat, k ≤ l ∧ i = .int .i64 k ∧ BRow wr w.heap.size l ∧ Below w.heap.size w wr) (fun i _ => l - (intOf i).toNat)
  case atStart => exact ⟨0, Nat.zero_le _, rfl, hrow, hbel⟩
  case round =>
    clear hrow hbel
    obtain ⟨k, hk, rfl, hrow, hbel⟩ := hrel
    by_cases hkl : k < l
    · obtain ⟨z, hc, hf⟩ := hrow.at k hkl
      have hl0 : ((0 : Int) == 0) = true := rfl
      go_wp2
      go_roundw
      case rel => exact ⟨k + 1, by omega, by go_num, hrow.set k hkl _, hbel.setCell (by simp) _⟩
      case measure => simp [intOf]; omega
    · have hkl' : k = l := by omega
      subst hkl'
      by_cases hz : k = 0
      · have hz' : ¬ (0 : Int) < (k : Int) := by omega
        clear hz
        obtain ⟨s, hs, hcv⟩ := hrow.str
        go_wp2_with fail
        refine (Cee.valid_any _ _ ?_).mono ?_
        · rw [hs]; unfold maxLen; omega
        rintro e w1 ⟨⟨b1, rfl, hb1⟩, rfl⟩
        go_wp2_with fail
        refine (Cee.model_any _ _ ?_).mono ?_
        · rw [hs]; unfold maxLen; omega
        rintro e w2 ⟨⟨b2, rfl, hb2⟩, rfl⟩
        obtain rfl : b1 = b2 := Bool.eq_iff_iff.2 (hb1.trans hb2.symm)
        clear hb1 hb2
        go_wp2
        go_ret
        exact ⟨by simp, hbel⟩
      · have hz' : (0 : Int) < (k : Int) := by omega
        obtain ⟨z, hc, hf⟩ := hrow.at (k - 1) (by omega)
        obtain ⟨S, hS, hcv⟩ := hrow.strs (k - 1) (by omega)
        have HS : Hid (∀ v, (S v).size = k) := hS
        clear hS
        go_wp2_with fail
        refine (Cee.valid_any _ _ ?_).mono ?_
        · rw [HS.out]; unfold maxLen; omega
        rintro e w1 ⟨⟨b1, rfl, hb1⟩, rfl⟩
        go_wp2_with fail
        refine (Cee.model_any _ _ ?_).mono ?_
        · rw [HS.out]; unfold maxLen; omega
        rintro e w2 ⟨⟨b2, rfl, hb2⟩, rfl⟩
        obtain rfl : b1 = b2 := Bool.eq_iff_iff.2 (hb1.trans hb2.symm)
        clear hb1 hb2
        go_wp2
        go_ret
        exact ⟨by simp, hbel.setCell (by simp) _⟩

set_option maxHeartbeats 1000000 in
set_option maxRecDepth 100000 in
theorem walk1 (b off len0 cap0 : Nat) (a1 : Int) (a2 : Int) (w : World) (hb : b < w.heap.size) (hpos : 0 < len0) (hlm : len0 ≤ maxLen) (hcells : ∀ i, i < len0 → ∃ z, w.cell? ⟨b, off + i, none⟩ = some (.int .u8 z) ∧ 0 ≤ z ∧ z ≤ 255) (w1 : (Lit.int .u16 a1).wf = true) (w2 : (Lit.int .u8 a2).wf = true) : Calls Yba.prog 6 #[.slice (some ⟨b, off, none⟩) len0 cap0, .int .u16 a1, .int .u8 a2] w fun e w' => e = .returned (.bool true) ∧ Below w.heap.size w w' := by
  unfold maxLen at hlm
  obtain ⟨i0, hi, hz0, hz1, hz2⟩ := info_parts Yba.info5
  obtain ⟨hn0, hn1⟩ : 0 ≤ a1 ∧ a1 ≤ 65535 := bounds_u16 w1
  obtain ⟨ht0, ht1⟩ : 0 ≤ a2 ∧ a2 ≤ 255 := bounds_u8 w2
  obtain ⟨l, hl, hlt⟩ : ∃ l : Nat, (a1 % 320) = (l : Int) ∧ l < 320 := ⟨(a1 % 320).toNat, by omega, by omega⟩
  go_enter Yba.func6, Yba.ntmps6
  go_wp2_with (at_make; refine wpList_make_full _ rfl _ _ 48 rfl w.heap.size 5 i0 (.int .u8 0) 1 Yba.underlying48 hi hz0 hz1 _ _ _ _ l rfl rfl ?_ ?_ ?_ ?_ ?_ ?_)
  · exact hl
  · exact hl
  · rw [hz2]; omega
  · unfold maxLen; omega
  · omega
  intro wm hown hgr
  have hrow := BRow.made hown
  have hbel : Below w.heap.size w wm := (Below.refl _ _).grown hgr (Nat.le_refl _) (fun _ h => by cases h)
  clear hown hgr hi hz0 hz1 hz2
  go_wp2
  go_loopw [9] (fun i wr => ∃ k : Nat, k ≤ l ∧ i = .int .i64 k ∧ BRow wr w.heap.size l ∧ Below w.heap.size w wr) (fun i _ => l - (intOf i).toNat)
  case atStart => exact ⟨0, Nat.zero_le _, rfl, hrow, hbel⟩
  case round =>
    clear hrow hbel
    obtain ⟨k, hk, rfl, hrow, hbel⟩ := hrel
    by_cases hkl : k < l
    · obtain ⟨z, hc, hf⟩ := hrow.at k hkl
      obtain ⟨y, hy⟩ := hcells (k % len0) (Nat.mod_lt _ hpos)
      have hy' : wr.cell? ⟨b, off + k % len0, none⟩ = some (.int .u8 y) := (hbel.cell (by exact hb)).trans hy.1
      have hy0 := hy.2.1
      have hy1 := hy.2.2
      clear hy
      have hb1 : 0 ≤ (k : Int) % (len0 : Int) := by omega
      have hb2 : (k : Int) % (len0 : Int) < (len0 : Int) := Int.emod_lt_of_pos _ (by omega)
      go_wp2
      go_roundw
      case rel => exact ⟨k + 1, by omega, by go_num, hrow.set k hkl _, hbel.setCell (by simp) _⟩
      case measure => simp [intOf]; omega
    · have hkl' : k = l := by omega
      subst hkl'
      by_cases hz : k = 0
      · have hz' : ¬ (0 : Int) < (k : Int) := by omega
        clear hz
        obtain ⟨s, hs, hcv⟩ := hrow.str
        go_wp2_with fail
        refine (Cee.valid_any _ _ ?_).mono ?_
        · rw [hs]; unfold maxLen; omega
        rintro e w1 ⟨⟨b1, rfl, hb1⟩, rfl⟩
        go_wp2_with fail
        refine (Cee.model_any _ _ ?_).mono ?_
        · rw [hs]; unfold maxLen; omega
        rintro e w2 ⟨⟨b2, rfl, hb2⟩, rfl⟩
        obtain rfl : b1 = b2 := Bool.eq_iff_iff.2 (hb1.trans hb2.symm)
        clear hb1 hb2
        go_wp2
        go_ret
        exact ⟨by simp, hbel⟩
      · have hz' : (0 : Int) < (k : Int) := by omega
        obtain ⟨z, hc, hf⟩ := hrow.at (k - 1) (by omega)
        obtain ⟨S, hS, hcv⟩ := hrow.strs (k - 1) (by omega)
        have HS : Hid (∀ v, (S v).size = k) := hS
        clear hS
        go_wp2_with fail
        refine (Cee.valid_any _ _ ?_).mono ?_
        · rw [HS.out]; unfold maxLen; omega
        rintro e w1 ⟨⟨b1, rfl, hb1⟩, rfl⟩
        go_wp2_with fail
        refine (Cee.model_any _ _ ?_).mono ?_
        · rw [HS.out]; unfold maxLen; omega
        rintro e w2 ⟨⟨b2, rfl, hb2⟩, rfl⟩
        obtain rfl : b1 = b2 := Bool.eq_iff_iff.2 (hb1.trans hb2.symm)
        clear hb1 hb2
        go_wp2
        go_ret
        exact ⟨by simp, hbel.setCell (by simp) _⟩

theorem walk (a0 : Option Addr) (len0 cap0 : Nat) (z0 : List Int) (a1 : Int) (a2 : Int) (w : World) (w0 : IsRow .u8 w a0 len0 cap0 z0) (w1 : (Lit.int .u16 a1).wf = true) (w2 : (Lit.int .u8 a2).wf = true) :
    Calls Yba.prog 6 #[.slice a0 len0 cap0, .int .u16 a1, .int .u8 a2] w fun e w' => e = .returned (.bool true) ∧ Below w.heap.size w w' := by
  rcases w0 with ⟨_, rfl, _, _⟩ | ⟨x, rfl, hlc, hcm, hzl, hcell, hwf⟩
  · exact walk0 a0 cap0 a1 a2 w w1 w2
  by_cases h0 : len0 = 0
  · subst h0
    exact walk0 _ cap0 a1 a2 w w1 w2
  obtain ⟨b, off, spot⟩ := x
  have hspot : spot = none := by simpa [Addr.add] using World.cell?_spot (hcell 0 (by omega))
  subst hspot
  have hcell' : ∀ j, j < z0.length → w.cell? ⟨b, off + j, none⟩ = some (.int .u8 (z0.getD j 0)) := fun j hj => by rw [← add_plain]; exact hcell j hj
  have hb : b < w.heap.size := World.block_lt_of_cell? w _ (hcell' 0 (by omega))
  refine walk1 b off len0 cap0 a1 a2 w hb (by omega) (by omega) (fun i hi => ⟨z0.getD i 0, hcell' i (by omega), ?_⟩) w1 w2
  exact bounds_u8 (hwf _ (by rw [show z0.getD i 0 = z0[i]'(by omega) by simp [List.getD, show i < z0.length by omega]]; exact List.getElem_mem _))

/-! ### THE ROW's STEP: WRITTEN OUT: LEAVE IT -/
set_option maxRecDepth 100000 in
theorem lifted (os : Os) (started : os.Started) (H : Type) (enc : TypeId × Value → H) :
    ReturnsInHanded {} Yba.checked os 6 .any (Rows.lawS6677CBuiltSpec.pre6 enc Yba.prog Yba.f6 Rows.lawS6677CBuiltRow.domain false) (Rows.lawS6677CBuiltSpec.post enc Yba.prog Yba.f6 false true false false) := by
  refine returnsInHanded_of_change (C := Yba.checked) own started (by kernel_rfl) Yba.func6
    (ChangeSpec.witness6 (enc := enc) (C := Yba.checked) false ⟨#[], #[.slice none 0 0, .int .u16 0, .int .u8 0], []⟩ 8 (by kernel_rfl) (by kernel_rfl) (by kernel_rfl) (by kernel_rfl)) ?_
  intro W base args ds gs before hval0 hW hcnd _
  have hval : ∀ (j : Nat) t v, Yba.f6.params[j]? = some t → args[j]? = some v → Value.okWide Yba.prog W .any base t v := hval0
  have hW' := hW
  obtain ⟨p, q, hA0, hV, rfl, hfz, hnd⟩ := hW
  have hA : DataW.TrodAll enc Yba.prog W 0 (fun _ => true) true Yba.f6.params.toList args.toList ds p := hA0
  rw [Yba.params6] at hA hval
  obtain ⟨v0, vs0, d0, ds0, p0, q0, hargs, rfl, rfl, h0, r0⟩ := trodAll_cons hA
  obtain ⟨v1, vs1, d1, ds1, p1, q1, rfl, rfl, rfl, h1, r1⟩ := trodAll_cons r0
  obtain ⟨v2, vs2, d2, ds2, p2, q2, rfl, rfl, rfl, h2, r2⟩ := trodAll_cons r1
  obtain ⟨rfl, rfl, rfl⟩ := trodAll_nil r2
  obtain rfl : args = #[v0, v1, v2] := by cases args; simp_all
  obtain ⟨rfl, rfl⟩ := trodVars_none hV
  obtain ⟨a0, len0, cap0, rfl⟩ := okWide_slice Yba.underlying48 (hval 0 48 v0 rfl rfl)
  have k0 := h0
  have lt0 : ∀ x ∈ p0, x.block < W.heap.size := by obtain ⟨m, hm⟩ := k0; exact DataW.trod_lt m _ _ _ hm
  obtain ⟨z0, w0⟩ : ∃ zs, IsRow .u8 W a0 len0 cap0 zs := by
    obtain ⟨fuel, hf⟩ := h0
    rcases open_ints Yba.underlying48 Yba.underlying5 (by kernel_rfl) hf with ⟨hcs, _⟩ | ⟨x, l, c, zs, hcs, _, hl, hm, hz, _, hcell, hwz⟩
    · simp [Value.cells] at hcs
      obtain ⟨rfl, rfl, rfl⟩ := hcs
      exact ⟨[], .inl ⟨rfl, rfl, rfl, rfl⟩⟩
    · simp [Value.cells] at hcs
      obtain ⟨rfl, rfl, rfl⟩ := hcs
      exact ⟨zs, .inr ⟨_, rfl, hl, hm, by simpa using hz, hcell, hwz⟩⟩
  obtain ⟨a1, rfl, rfl, rfl, w1⟩ := open_int Yba.underlying49 (hval 1 49 v1 rfl rfl) h1
  obtain ⟨a2, rfl, rfl, rfl, w2⟩ := open_int Yba.underlying5 (hval 2 5 v2 rfl rfl) h2
  clear hA0 hval0
  refine (walk a0 len0 cap0 z0 a1 a2 W w0 w1 w2).mono fun e W' ⟨he, bel⟩ => ?_
  subst he
  exact ⟨_, rfl, _, _, _, [], _, [], hW', trodAll_mk1 (shut_bool Yba.underlying4 _), (trodAll_cons_mk (Below.trod laidOut (by kernel_rfl) (of_decide_eq_true (by kernel_rfl)) k0 bel lt0) (trodAll_cons_mk (shut_int Yba.underlying49 w1) (trodAll_cons_mk (shut_int Yba.underlying5 w2) trodAll_mk0))), rfl, bel.frame _, fun h => by cases h⟩

theorem over : Rows.lawS6677CBuiltRow.holds Yba.pinned (OpenSpec.ofChange Rows.lawS6677CBuiltSpec) :=
  OpenClaim.holds_of_wide 6 Yba.f6 rfl rfl rfl rfl rfl rfl rfl ⟨rfl, rfl, rfl, rfl, rfl⟩ rfl rfl rfl rfl rfl (by kernel_rfl) Yba.func6 (by kernel_rfl)
    (of_decide_eq_true (by kernel_rfl)) (by unfold Func.isWrapper; first | (rw [if_pos (by decide +kernel)]; kernel_rfl) | (rw [if_neg (by decide +kernel)]; exact ⟨rfl, rfl⟩))
    (fun os started H enc _ => lifted os started H enc)

/-- ████ THE STATEMENT ████ -/
theorem proved : Rows.LawS6677CBuiltSaid := over
#print axioms proved
end Go.Proofs.Ybulkehgi.lawS6677CBuilt
