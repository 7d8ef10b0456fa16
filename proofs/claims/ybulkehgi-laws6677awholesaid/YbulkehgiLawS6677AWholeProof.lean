/-
  'Rows.LawS6677AWholeSaid' PROVED: the row's step over the walk of YbulkehgiLawA.
-/
import Derived.Test.YbulkehgiRows
import Derived.Test.YbulkehgiLawA
import Derived.ProofKit
import Derived.OpenShut
import Derived.ShutString
import Derived.ChangeOld
import Derived.SizedLaws
import Derived.Deep.Slices
namespace Go.Proofs.Ybulkehgi.lawS6677AWhole
open Go.ChangeShapes Go.WideShapes Go.ChangeAt Go.RowKit
open Go.ChangeMaps (open_string shut_string)
open LawH LawA Strs

theorem own : ownKnob Yba.prog.godebug = none := by kernel_rfl
theorem laidOut : laidOutB Yba.prog = true := by kernel_rfl
theorem cells25 : Yba.prog.cellsOf 25 = 4 := by kernel_rfl
theorem cells5 : Yba.prog.cellsOf 5 = 1 := by kernel_rfl
theorem cells9 : Yba.prog.cellsOf 9 = 1 := by kernel_rfl
theorem cells23 : Yba.prog.cellsOf 23 = 1 := by kernel_rfl
theorem bytes9 : Yba.prog.bytesOf 9 = 16 := by kernel_rfl
theorem reach_eq : reachBytes = 140737488351232 := rfl

theorem weightsAll_mem {H : Type} {P : Program} {e : TypeId} : ∀ {l : List (DataW H)} {d : DataW H}, d ∈ l → ∀ n ∈ d.weights P e, n ∈ DataW.weightsAll P e l
  | d' :: r, d, hd, n, hn => by
    simp only [DataW.weightsAll, List.mem_append]
    rcases List.mem_cons.1 hd with rfl | h
    · exact Or.inl hn
    · exact Or.inr (weightsAll_mem h n hn)

/-- The strings behind one slice. -/
theorem vals_of {H : Type} {enc : TypeId × Value → H} {W : World} {n : Nat} {v : Value} {y : DataW H × List MemPlace} (h : DataW.trod enc Yba.prog W 0 (fun _ => true) true n 23 [v] = some y) (hw : ∀ x ∈ y.1.weights Yba.prog 23, x ≤ reachBytes) :
    ∃ ao len cap ss, v = .slice ao len cap ∧ Sl W ao len ss ∧ len ≤ 8796093022208 := by
  rcases Deep.open_slice1 Yba.underlying23 cells9 h with ⟨hcs, _⟩ | ⟨a, len, cap, m, k, V, D, Pl, hcs, _, hl, _, hm, rfl, hx⟩
  · simp only [List.cons.injEq, and_true] at hcs
    exact ⟨none, 0, 0, [], hcs, Sl.nil W, Nat.zero_le _⟩
  · simp only [List.cons.injEq, and_true] at hcs
    have hlm : len ≤ m := by rw [hm]; split <;> omega
    have hb := hw ((((List.range len).map D).length + ((List.range (m - len)).map fun j => D (len + j)).length) * Yba.prog.bytesOf 9) (by simp [DataW.weights, Yba.underlying23])
    rw [bytes9, reach_eq] at hb
    simp only [List.length_map, List.length_range] at hb
    obtain ⟨f, hf⟩ := @Deep.choose_lt ByteArray ⟨ByteArray.empty⟩ len (fun i s => V i = .string s) (fun i hi => by
      obtain ⟨s, e, _, _⟩ := DataW.trod_string Yba.underlying9 (hx i (by omega)).2
      simp only [List.cons.injEq, and_true] at e
      exact ⟨s, e⟩)
    refine ⟨some a, len, cap, (List.range len).map f, hcs, ⟨by simp, by simp, ?_⟩, by omega⟩
    rintro b ⟨⟩ j u hj
    rw [List.map_map, List.getElem?_map] at hj
    by_cases hjl : j < len
    · rw [List.getElem?_range hjl] at hj
      simp only [Option.map_some, Function.comp, Option.some.injEq] at hj
      rw [(hx j (by omega)).1, hf j hjl, hj]
    · rw [List.getElem?_eq_none (by simp; omega)] at hj
      cases hj

/-- One entry, out of its four cells. -/
def EntA (W : World) (a : Addr) (i : Nat) (e : Ent) : Prop :=
  W.cell? (a.add (i * 4)) = some (.int .u8 e.pick) ∧ W.cell? (a.add (i * 4 + 1)) = some (.int .u8 e.mask) ∧ W.cell? (a.add (i * 4 + 2)) = some (.string e.key) ∧ W.cell? (a.add (i * 4 + 3)) = some (.slice e.vo e.vn e.vc) ∧
  Sl W e.vo e.vn e.ss ∧ 0 ≤ e.pick ∧ e.pick ≤ 255 ∧ 0 ≤ e.mask ∧ e.mask ≤ 255 ∧ e.key.size ≤ 140737488355328 ∧ e.vn ≤ 8796093022208

theorem four {α : Type} {l : List α} (h : l.length = 4) : ∃ a b c d, l = [a, b, c, d] := by
  match l, h with
  | [a, b, c, d], _ => exact ⟨a, b, c, d, rfl⟩

theorem ent_of {H : Type} {enc : TypeId × Value → H} {W : World} {n i : Nat} {a : Addr} {cs : List Value} {y : DataW H × List MemPlace} (h1 : W.cells? 0 (a.add (i * 4)) 4 = some cs) (h2 : DataW.trod enc Yba.prog W 0 (fun _ => true) true n 25 cs = some y)
    (hw : ∀ x ∈ y.1.weights Yba.prog 25, x ≤ reachBytes) : ∃ e, EntA W a i e := by
  obtain ⟨_, hlen, hcell⟩ := World.cells?_some h1
  obtain ⟨xs, k, hk, rfl, _, hxl, hf⟩ := DataW.trod_struct Yba.underlying25 h2
  obtain ⟨v0, v1, v2, v3, rfl⟩ := four hlen
  have g0 := hf 0 _ rfl
  have g1 := hf 1 _ rfl
  have g2 := hf 2 _ rfl
  have g3 := hf 3 _ rfl
  obtain ⟨x0, x1, x2, x3, rfl⟩ := four (show xs.length = 4 from hxl)
  simp [cells5, cells9, cells23] at g0 g1 g2 g3
  obtain ⟨s, e0, _, w0⟩ := DataW.trod_int Yba.underlying5 g0
  obtain ⟨p, e1, _, w1⟩ := DataW.trod_int Yba.underlying5 g1
  obtain ⟨q, e2, rfl, _⟩ := DataW.trod_string Yba.underlying9 g2
  have hw3 : ∀ x ∈ x3.1.weights Yba.prog 23, x ≤ reachBytes := fun x hx => hw x (by simp [DataW.weights, Yba.underlying25, DataW.weightsEach, hx])
  have hw2 : q.data.toList.length ≤ reachBytes := hw _ (by simp [DataW.weights, Yba.underlying25, DataW.weightsEach])
  obtain ⟨ao, len, cap, ss, e3, hsl, hvn⟩ := vals_of g3 hw3
  simp only [List.cons.injEq, and_true] at e0 e1 e2
  subst e0 e1 e2 e3
  have c0 := hcell 0 (by omega)
  have c1 := hcell 1 (by omega)
  have c2 := hcell 2 (by omega)
  have c3 := hcell 3 (by omega)
  rw [Deep.add_add] at c0 c1 c2 c3
  rw [Array.length_toList, reach_eq] at hw2
  refine ⟨⟨s, p, q, ao, len, cap, ss⟩, by simpa using c0, by simpa using c1, by simpa using c2, by simpa using c3, hsl, (bounds_u8 w0).1, (bounds_u8 w0).2, (bounds_u8 w1).1, (bounds_u8 w1).2, ?_, hvn⟩
  exact Nat.le_trans hw2 (by decide)

theorem open_ents {H : Type} {enc : TypeId × Value → H} {W : World} {fuel : Nat} {ao : Option Addr} {len cap : Nat} {x : DataW H × List MemPlace} (h : DataW.trod enc Yba.prog W 0 (fun _ => true) true fuel 22 [.slice ao len cap] = some x) (hw : ∀ n ∈ x.1.weights Yba.prog 22, n ≤ reachBytes) :
    ∃ es : List Ent, es.length = len ∧ ∀ i (h : i < es.length), ∃ b off, ao = some ⟨b, off, none⟩ ∧ EntAt W b off i es[i] := by
  by_cases h0 : len = 0
  · exact ⟨[], h0.symm, fun i h => by simp at h⟩
  rcases Deep.open_slice Yba.underlying22 h with ⟨hcs, _⟩ | ⟨a, len', cap', m, n, D, Pl, hcs, _, hl, _, hm, rfl, hx⟩
  · simp at hcs; omega
  · simp only [List.cons.injEq, Value.slice.injEq, and_true] at hcs
    obtain ⟨rfl, rfl, rfl⟩ := hcs
    have hlm : len ≤ m := by rw [hm]; split <;> omega
    rw [cells25] at hx
    have each : ∀ i, i < len → ∃ e, EntA W a i e := fun i hi => by
      obtain ⟨cs, h1, h2⟩ := hx i (by omega)
      refine ent_of h1 h2 fun n hn => hw n ?_
      simp only [DataW.weights, Yba.underlying22, List.mem_cons, List.mem_append]
      exact Or.inr (Or.inl (weightsAll_mem (List.mem_map.2 ⟨i, List.mem_range.2 hi, rfl⟩) n hn))
    obtain ⟨f, hf⟩ := @Deep.choose_lt Ent ⟨⟨0, 0, ByteArray.empty, none, 0, 0, []⟩⟩ len _ each
    obtain ⟨b, off, spot⟩ := a
    have c0 := (hf 0 (by omega)).1
    have hspot : spot = none := by simpa [Addr.add] using World.cell?_spot c0
    subst hspot
    have hlt := World.block_lt_of_cell? W _ c0
    refine ⟨(List.range len).map f, by simp, fun i hi => ⟨b, off, rfl, ?_⟩⟩
    simp only [List.length_map, List.length_range] at hi
    have := hf i hi
    unfold EntA at this
    simp only [add_plain, ← Nat.add_assoc] at this
    obtain ⟨c0, c1, c2, c3, hs, p0, p1, m0, m1, hk, hv⟩ := this
    simp only [List.getElem_map, List.getElem_range]
    exact ⟨c0, c1, c2, c3, hs, p0, p1, m0, m1, hk, hv, hlt⟩

set_option maxRecDepth 100000 in
theorem lifted (os : Os) (started : os.Started) (H : Type) (enc : TypeId × Value → H) :
    ReturnsInHanded {} Yba.checked os 3 .any (Rows.lawS6677AWholeSpec.pre6 enc Yba.prog Yba.f3 Rows.lawS6677AWholeRow.domain false) (Rows.lawS6677AWholeSpec.post enc Yba.prog Yba.f3 false true false false) := by
  refine returnsInHanded_of_change_sized (C := Yba.checked) own started (by kernel_rfl) Yba.func3
    (ChangeSpec.witness6 (enc := enc) (C := Yba.checked) false ⟨#[], #[.int .u8 0, .string ByteArray.empty, .string ByteArray.empty, .slice none 0 0], []⟩ 8 (by kernel_rfl) (by kernel_rfl) (by kernel_rfl) (by kernel_rfl)) ?_
  intro W base args ds gs before hval0 hW _ hsz0 _
  have hsz : (DataW.weightsEach Yba.prog (Yba.f3.params.toList ++ Rows.lawS6677AWholeSpec.plain.varTypes Yba.prog) (ds ++ gs)).all (· ≤ reachBytes) = true := hsz0
  clear hsz0
  have hval : ∀ (j : Nat) t v, Yba.f3.params[j]? = some t → args[j]? = some v → Value.okWide Yba.prog W .any base t v := hval0
  have hW' := hW
  obtain ⟨p, q, hA0, hV, rfl, hfz, hnd⟩ := hW
  have hA : DataW.TrodAll enc Yba.prog W 0 (fun _ => true) true Yba.f3.params.toList args.toList ds p := hA0
  rw [Yba.params3] at hA hval hsz
  obtain ⟨v0, vs0, d0, ds0, p0, q0, hargs, rfl, rfl, h0, r0⟩ := trodAll_cons hA
  obtain ⟨v1, vs1, d1, ds1, p1, q1, rfl, rfl, rfl, h1, r1⟩ := trodAll_cons r0
  obtain ⟨v2, vs2, d2, ds2, p2, q2, rfl, rfl, rfl, h2, r2⟩ := trodAll_cons r1
  obtain ⟨v3, vs3, d3, ds3, p3, q3, rfl, rfl, rfl, h3, r3⟩ := trodAll_cons r2
  obtain ⟨rfl, rfl, rfl⟩ := trodAll_nil r3
  obtain rfl : args = #[v0, v1, v2, v3] := by cases args; simp_all
  obtain ⟨rfl, rfl⟩ := trodVars_none hV
  obtain ⟨a0, rfl, rfl, rfl, w0⟩ := open_int Yba.underlying5 (hval 0 5 v0 rfl rfl) h0
  obtain ⟨a1, rfl, rfl, rfl, w1⟩ := open_string Yba.underlying9 (hval 1 9 v1 rfl rfl) h1
  obtain ⟨a2, rfl, rfl, rfl, w2⟩ := open_string Yba.underlying9 (hval 2 9 v2 rfl rfl) h2
  obtain ⟨ao, len, cap, rfl⟩ := okWide_slice Yba.underlying22 (hval 3 22 v3 rfl rfl)
  have k3 := h3
  have lt3 : ∀ x ∈ p3, x.block < W.heap.size := by obtain ⟨m, hm⟩ := k3; exact DataW.trod_lt m _ _ _ hm
  have s1 : a1.size ≤ 140737488355328 := by
    have h := sized_string hsz (j := 1) (t := 9) (bytes := a1.data.toList) rfl rfl
    rw [Array.length_toList] at h
    exact Nat.le_trans h (by decide)
  have s2 : a2.size ≤ 140737488355328 := by
    have h := sized_string hsz (j := 2) (t := 9) (bytes := a2.data.toList) rfl rfl
    rw [Array.length_toList] at h
    exact Nat.le_trans h (by decide)
  have s3 : ∀ n ∈ d3.weights Yba.prog 22, n ≤ reachBytes := fun n hn => of_decide_eq_true (List.all_eq_true.1 hsz _ (DataW.weights_mem_each (j := 3) (t := 22) rfl rfl n hn))
  obtain ⟨fuel, hf⟩ := h3
  clear hA0 hval0
  have walk : Calls Yba.prog 3 #[.int .u8 a0, .string a1, .string a2, .slice ao len cap] W fun e w' => e = .returned (.bool true) ∧ Below W.heap.size W w' := by
    by_cases hbig : 4096 < len
    · exact law_big a0 a1 a2 ao len cap W hbig
    obtain ⟨es, rfl, he⟩ := open_ents (by simpa [Value.cells] using hf) s3
    exact law_any a0 a1 a2 ao cap es W (bounds_u8 w0).1 (bounds_u8 w0).2 s1 s2 (by omega) he
  refine walk.mono fun e W' ⟨he, bel⟩ => ?_
  subst he
  exact ⟨_, rfl, _, _, _, [], _, [], hW', trodAll_mk1 (shut_bool Yba.underlying4 _), (trodAll_cons_mk (shut_int Yba.underlying5 w0) (trodAll_cons_mk (shut_string Yba.underlying9 w1) (trodAll_cons_mk (shut_string Yba.underlying9 w2) (trodAll_cons_mk (Below.trod laidOut (by kernel_rfl) (of_decide_eq_true (by kernel_rfl)) k3 bel lt3) trodAll_mk0)))), rfl, bel.frame _, fun h => by cases h⟩

theorem over : Rows.lawS6677AWholeRow.holds Yba.pinned (OpenSpec.ofChange Rows.lawS6677AWholeSpec) :=
  OpenClaim.holds_of_wide 3 Yba.f3 rfl rfl rfl rfl rfl rfl rfl ⟨rfl, rfl, rfl, rfl, rfl⟩ rfl rfl rfl rfl rfl (by kernel_rfl) Yba.func3 (by kernel_rfl)
    (of_decide_eq_true (by kernel_rfl)) (by unfold Func.isWrapper; first | (rw [if_pos (by decide +kernel)]; kernel_rfl) | (rw [if_neg (by decide +kernel)]; exact ⟨rfl, rfl⟩))
    (fun os started H enc _ => lifted os started H enc)

/-- ████ THE STATEMENT ████ -/
theorem proved : Rows.LawS6677AWholeSaid := over
#print axioms proved
end Go.Proofs.Ybulkehgi.lawS6677AWhole
