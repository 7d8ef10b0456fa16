/-
  'Rows.LawS6680CWholeSaid' PROVED: the row's step over the walks of YbulkehhyLaw and YbulkehhyZero.
-/
import Derived.Test.YbulkehhyRows
import Derived.Test.YbulkehhyZero
import Derived.ProofKit
import Derived.OpenShut
import Derived.ShutString
import Derived.ChangeOld
import Derived.SizedLaws
import Derived.Deep.Slices
namespace Go.Proofs.Ybulkehhy.lawS6680CWhole
open Go.ChangeShapes Go.WideShapes Go.ChangeAt Go.RowKit
open Go.ChangeMaps (open_string shut_string)
open Plain Walks

theorem own : ownKnob Yba.prog.godebug = none := by kernel_rfl
theorem laidOut : laidOutB Yba.prog = true := by kernel_rfl
theorem cells26 : Yba.prog.cellsOf 26 = 5 := by kernel_rfl
theorem cells5 : Yba.prog.cellsOf 5 = 1 := by kernel_rfl
theorem cells9 : Yba.prog.cellsOf 9 = 1 := by kernel_rfl
theorem cells24 : Yba.prog.cellsOf 24 = 1 := by kernel_rfl

/-- One record, out of its five cells. -/
def EntAt (W : World) (a : Addr) (i : Nat) (e : Ent) : Prop :=
  W.cell? (a.add (i * 5)) = some (.int .u8 e.sel) ∧ W.cell? (a.add (i * 5 + 1)) = some (.string e.part) ∧ W.cell? (a.add (i * 5 + 2)) = some (.int .u64 e.pr) ∧ W.cell? (a.add (i * 5 + 3)) = some (.int .u64 e.ac) ∧ W.cell? (a.add (i * 5 + 4)) = some (.string e.val) ∧
  0 ≤ e.sel ∧ e.sel ≤ 255 ∧ 0 ≤ e.pr ∧ 0 ≤ e.ac

theorem five {α : Type} {l : List α} (h : l.length = 5) : ∃ a b c d e, l = [a, b, c, d, e] := by
  match l, h with
  | [a, b, c, d, e], _ => exact ⟨a, b, c, d, e, rfl⟩

theorem ent_of {H : Type} {enc : TypeId × Value → H} {W : World} {n i : Nat} {a : Addr} {cs : List Value} {y : DataW H × List MemPlace} (h1 : W.cells? 0 (a.add (i * 5)) 5 = some cs) (h2 : DataW.trod enc Yba.prog W 0 (fun _ => true) true n 26 cs = some y) : ∃ e, EntAt W a i e := by
  obtain ⟨_, hlen, hcell⟩ := World.cells?_some h1
  obtain ⟨xs, k, hk, hxy, _, hxl, hf⟩ := DataW.trod_struct Yba.underlying26 h2
  obtain ⟨v0, v1, v2, v3, v4, rfl⟩ := five hlen
  have g0 := hf 0 _ rfl
  have g1 := hf 1 _ rfl
  have g2 := hf 2 _ rfl
  have g3 := hf 3 _ rfl
  have g4 := hf 4 _ rfl
  obtain ⟨x0, x1, x2, x3, x4, rfl⟩ := five (show xs.length = 5 from hxl)
  simp [cells5, cells9, cells24] at g0 g1 g2 g3 g4
  obtain ⟨s, e0, _, w0⟩ := DataW.trod_int Yba.underlying5 g0
  obtain ⟨p, e1, _, _⟩ := DataW.trod_string Yba.underlying9 g1
  obtain ⟨q, e2, _, w2⟩ := DataW.trod_int Yba.underlying24 g2
  obtain ⟨c, e3, _, w3⟩ := DataW.trod_int Yba.underlying24 g3
  obtain ⟨v, e4, _, _⟩ := DataW.trod_string Yba.underlying9 g4
  simp only [List.cons.injEq, and_true] at e0 e1 e2 e3 e4
  subst e0 e1 e2 e3 e4
  have c0 := hcell 0 (by omega)
  have c1 := hcell 1 (by omega)
  have c2 := hcell 2 (by omega)
  have c3 := hcell 3 (by omega)
  have c4 := hcell 4 (by omega)
  rw [Deep.add_add] at c0 c1 c2 c3 c4
  refine ⟨⟨s, p, q, c, v⟩, by simpa using c0, by simpa using c1, by simpa using c2, by simpa using c3, by simpa using c4, (bounds_u8 w0).1, (bounds_u8 w0).2, ?_, ?_⟩
  · exact (bounds_u64 w2).1
  · exact (bounds_u64 w3).1

theorem open_ents {H : Type} {enc : TypeId × Value → H} {W : World} {fuel : Nat} {ao : Option Addr} {len cap : Nat} {x : DataW H × List MemPlace} (h : DataW.trod enc Yba.prog W 0 (fun _ => true) true fuel 22 [.slice ao len cap] = some x) :
    len = 0 ∨ ∃ b off es, ao = some ⟨b, off, none⟩ ∧ es.length = len ∧ b < W.heap.size ∧ Ents W b off es := by
  by_cases h0 : len = 0
  · exact .inl h0
  right
  rcases Deep.open_slice Yba.underlying22 h with ⟨hcs, _⟩ | ⟨a, len', cap', m, n, D, Pl, hcs, _, hl, _, hm, _, hx⟩
  · simp at hcs; omega
  · simp only [List.cons.injEq, Value.slice.injEq, and_true] at hcs
    obtain ⟨rfl, rfl, rfl⟩ := hcs
    have hlm : len ≤ m := by rw [hm]; split <;> omega
    rw [cells26] at hx
    have each : ∀ i, i < len → ∃ e, EntAt W a i e := fun i hi => by
      obtain ⟨cs, h1, h2⟩ := hx i (by omega)
      exact ent_of h1 h2
    obtain ⟨f, hf⟩ := @Deep.choose_lt Ent ⟨⟨0, ByteArray.empty, 0, 0, ByteArray.empty⟩⟩ len _ each
    obtain ⟨b, off, spot⟩ := a
    have c0 := (hf 0 (by omega)).1
    have hspot : spot = none := by simpa [Addr.add] using World.cell?_spot c0
    subst hspot
    refine ⟨b, off, (List.range len).map f, rfl, by simp, World.block_lt_of_cell? W _ c0, fun i hi => ?_⟩
    simp only [List.length_map, List.length_range] at hi
    have := hf i hi
    unfold EntAt at this
    simp only [add_plain, ← Nat.add_assoc] at this
    simpa using this

set_option maxRecDepth 100000 in
theorem lifted (os : Os) (started : os.Started) (H : Type) (enc : TypeId × Value → H) :
    ReturnsInHanded {} Yba.checked os 3 .any (Rows.lawS6680CWholeSpec.pre6 enc Yba.prog Yba.f3 Rows.lawS6680CWholeRow.domain false) (Rows.lawS6680CWholeSpec.post enc Yba.prog Yba.f3 false true false false) := by
  refine returnsInHanded_of_change_sized (C := Yba.checked) own started (by kernel_rfl) Yba.func3
    (ChangeSpec.witness6 (enc := enc) (C := Yba.checked) false ⟨#[], #[.string ByteArray.empty, .string ByteArray.empty, .slice none 0 0], []⟩ 8 (by kernel_rfl) (by kernel_rfl) (by kernel_rfl) (by kernel_rfl)) ?_
  intro W base args ds gs before hval0 hW _ hsz0 _
  have hsz : (DataW.weightsEach Yba.prog (Yba.f3.params.toList ++ Rows.lawS6680CWholeSpec.plain.varTypes Yba.prog) (ds ++ gs)).all (· ≤ reachBytes) = true := hsz0
  clear hsz0
  have hval : ∀ (j : Nat) t v, Yba.f3.params[j]? = some t → args[j]? = some v → Value.okWide Yba.prog W .any base t v := hval0
  have hW' := hW
  obtain ⟨p, q, hA0, hV, rfl, hfz, hnd⟩ := hW
  have hA : DataW.TrodAll enc Yba.prog W 0 (fun _ => true) true Yba.f3.params.toList args.toList ds p := hA0
  rw [Yba.params3] at hA hval hsz
  obtain ⟨v0, vs0, d0, ds0, p0, q0, hargs, rfl, rfl, h0, r0⟩ := trodAll_cons hA
  obtain ⟨v1, vs1, d1, ds1, p1, q1, rfl, rfl, rfl, h1, r1⟩ := trodAll_cons r0
  obtain ⟨v2, vs2, d2, ds2, p2, q2, rfl, rfl, rfl, h2, r2⟩ := trodAll_cons r1
  obtain ⟨rfl, rfl, rfl⟩ := trodAll_nil r2
  obtain rfl : args = #[v0, v1, v2] := by cases args; simp_all
  obtain ⟨rfl, rfl⟩ := trodVars_none hV
  obtain ⟨a0, rfl, rfl, rfl, w0⟩ := open_string Yba.underlying9 (hval 0 9 v0 rfl rfl) h0
  obtain ⟨a1, rfl, rfl, rfl, w1⟩ := open_string Yba.underlying9 (hval 1 9 v1 rfl rfl) h1
  obtain ⟨ao, len, cap, rfl⟩ := okWide_slice Yba.underlying22 (hval 2 22 v2 rfl rfl)
  have k2 := h2
  have lt2 : ∀ x ∈ p2, x.block < W.heap.size := by obtain ⟨m, hm⟩ := k2; exact DataW.trod_lt m _ _ _ hm
  have hid1 : a1.size ≤ 140737488351232 := by
    have h := sized_string hsz (j := 1) (t := 9) (bytes := a1.data.toList) rfl rfl
    rw [Array.length_toList] at h
    exact h
  obtain ⟨fuel, hf⟩ := h2
  clear hA0 hval0
  have walk : Calls Yba.prog 3 #[.string a0, .string a1, .slice ao len cap] W fun e w' => e = .returned (.bool true) ∧ Below W.heap.size W w' := by
    by_cases hbig : 4096 < len
    · exact law_big a0 a1 ao len cap W hbig
    rcases open_ents (by simpa [Value.cells] using hf) with rfl | ⟨b, off, es, rfl, rfl, hb, he⟩
    · exact law_zero a0 a1 ao cap W hid1
    · exact law_any a0 a1 b off cap es W he hb hid1 (by omega)
  refine walk.mono fun e W' ⟨he, bel⟩ => ?_
  subst he
  exact ⟨_, rfl, _, _, _, [], _, [], hW', trodAll_mk1 (shut_bool Yba.underlying4 _), (trodAll_cons_mk (shut_string Yba.underlying9 w0) (trodAll_cons_mk (shut_string Yba.underlying9 w1) (trodAll_cons_mk (Below.trod laidOut (by kernel_rfl) (of_decide_eq_true (by kernel_rfl)) k2 bel lt2) trodAll_mk0))), rfl, bel.frame _, fun h => by cases h⟩

theorem over : Rows.lawS6680CWholeRow.holds Yba.pinned (OpenSpec.ofChange Rows.lawS6680CWholeSpec) :=
  OpenClaim.holds_of_wide 3 Yba.f3 rfl rfl rfl rfl rfl rfl rfl ⟨rfl, rfl, rfl, rfl, rfl⟩ rfl rfl rfl rfl rfl (by kernel_rfl) Yba.func3 (by kernel_rfl)
    (of_decide_eq_true (by kernel_rfl)) (by unfold Func.isWrapper; first | (rw [if_pos (by decide +kernel)]; kernel_rfl) | (rw [if_neg (by decide +kernel)]; exact ⟨rfl, rfl⟩))
    (fun os started H enc _ => lifted os started H enc)

/-- ████ THE STATEMENT ████ -/
theorem proved : Rows.LawS6680CWholeSaid := over
#print axioms proved
end Go.Proofs.Ybulkehhy.lawS6680CWhole
