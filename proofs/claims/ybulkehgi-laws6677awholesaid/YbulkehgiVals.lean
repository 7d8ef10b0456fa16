/-
  (*spellings).values (f20), over each of the three carriers.
-/
import Derived.Test.YbulkehgiCar
namespace Go.Proofs.Ybulkehgi.Vals
open Go.RowKit Fold Strs Spell SM Car Srt

/-- The values under the spellings ms. -/
def many (kv : KV) (ms : List ByteArray) : List ByteArray := (srt ms).flatMap fun k => strs ((SM.get kv k).getD none)
def resOf (kv : KV) (ms : List ByteArray) : VL :=
  match ms with
  | [] => none
  | [k] => (SM.get kv k).getD none
  | k :: k' :: r => if many kv (k :: k' :: r) = [] then none else some (many kv (k :: k' :: r))
theorem resOf_perm (kv : KV) {ms ms' : List ByteArray} (h : ms.Perm ms') : resOf kv ms = resOf kv ms' := by
  have hl := h.length_eq
  match ms, ms', hl with
  | [], [], _ => rfl
  | [k], [k'], _ => rw [List.perm_singleton.1 h]
  | a :: b :: r, a' :: b' :: r', _ =>
    have e : many kv (a :: b :: r) = many kv (a' :: b' :: r') := by unfold many; rw [srt_congr h]
    show (if many kv (a :: b :: r) = [] then none else some (many kv (a :: b :: r))) = (if many kv (a' :: b' :: r') = [] then none else some (many kv (a' :: b' :: r')))
    rw [e]

def ResPost (w : World) (S : Nat) (v : Value) (vl : VL) (e : Ending) (w' : World) : Prop :=
  ∃ rv, e = .returned rv ∧ SS w' 0 rv (strs vl) ∧ (rv = .slice none 0 0 ↔ vl = none) ∧ (∀ k, rv.ownBlock = some k → k < S ∨ w.heap.size ≤ k) ∧ Keeps (fun k => v.ownBlock = some k) w w'

theorem aheadH (b : Nat) (w : World) : (nilAhead 210 33 (.map (some b)) "Values").run Yba.prog w = .ok (some false) w := by kernel_rfl
theorem methH (b : Nat) (w : World) : (method 210 33 (.map (some b)) "Values").run Yba.prog w = .ok (65, .map (some b)) w := by kernel_rfl
theorem aheadM (b : Nat) (w : World) : (nilAhead 210 35 (.map (some b)) "Values").run Yba.prog w = .ok (some false) w := by kernel_rfl
theorem methM (b : Nat) (w : World) : (method 210 35 (.map (some b)) "Values").run Yba.prog w = .ok (72, .map (some b)) w := by kernel_rfl
theorem aheadO (b : Nat) (w : World) : (nilAhead 210 31 (.pointer (some ⟨b, 0, none⟩)) "Values").run Yba.prog w = .ok (some false) w := by kernel_rfl
theorem methO (b : Nat) (w : World) : (method 210 31 (.pointer (some ⟨b, 0, none⟩)) "Values").run Yba.prog w = .ok (62, .pointer (some ⟨b, 0, none⟩)) w := by kernel_rfl

set_option maxHeartbeats 1000000 in
theorem vals0 (w : World) (S p : Nat) (v c : Value) (kv : KV) (h : Sp w S p v []) :
    Calls Yba.prog 20 #[.pointer (some ⟨p, 0, none⟩), c] w (ResPost w S v (resOf kv [])) := by
  have c0 := h.first
  simp only [List.headD_nil] at c0
  go_enter Yba.func20, Yba.ntmps20
  go_wp2
  go_ret
  exact ⟨_, rfl, Row.nil _ _ _, by simp [resOf], by simp [Value.ownBlock], Keeps.refl _ _⟩

theorem enter65 (args : Array Value) (w : World) : (callFunc 65 args).run Yba.prog w = .ok (.enter 65 args) w := by kernel_rfl
theorem enter72 (args : Array Value) (w : World) : (callFunc 72 args).run Yba.prog w = .ok (.enter 72 args) w := by kernel_rfl
theorem enter62 (args : Array Value) (w : World) : (callFunc 62 args).run Yba.prog w = .ok (.enter 62 args) w := by kernel_rfl
/-- What is asked of a carrier: its method Values. -/
structure Gives (w : World) (B : Nat) (t : TypeId) (x : Value) (fn : FuncId) (kv : KV) : Prop where
  ahead : ∀ w, (nilAhead 210 t x "Values").run Yba.prog w = .ok (some false) w
  meth : ∀ w, (method 210 t x "Values").run Yba.prog w = .ok (fn, x) w
  enter : ∀ args w, (callFunc fn args).run Yba.prog w = .ok (.enter fn args) w
  call : ∀ k vl w', SM.get kv k = some vl → (∀ j, j < B → w'.heap[j]? = w.heap[j]?) → Calls Yba.prog fn #[x, .string k] w' (ValPost w' B vl)
theorem Gives.same {w w1 : World} {B : Nat} {t : TypeId} {x : Value} {fn : FuncId} {kv : KV} (h : Gives w B t x fn kv) (hb : ∀ j, j < B → w1.heap[j]? = w.heap[j]?) : Gives w1 B t x fn kv :=
  ⟨h.ahead, h.meth, h.enter, fun k vl w' hk hw => h.call k vl w' hk fun j hj => (hw j hj).trans (hb j hj)⟩
theorem CarH.gives {w : World} {B b : Nat} {kv : KV} (h : CarH w B b kv) : Gives w B 33 (.map (some b)) 65 kv := ⟨aheadH b, methH b, enter65, fun k vl w' hk hw => valuesH w' B b kv k vl (h.same hw) hk⟩
theorem CarM.gives {w : World} {B b : Nat} {kv : KV} (h : CarM w B b kv) : Gives w B 35 (.map (some b)) 72 kv := ⟨aheadM b, methM b, enter72, fun k vl w' hk hw => valuesM w' B b kv k vl (h.same hw) hk⟩
theorem CarO.gives {w : World} {B b : Nat} {n : Int} {kv : KV} (h : CarO w B b n kv) (hs : kv.length ≤ 4096) : Gives w B 31 (.pointer (some ⟨b, 0, none⟩)) 62 kv := ⟨aheadO b, methO b, enter62, fun k vl w' hk hw => valuesO w' B b n kv k vl (h.same hw) hk hs⟩

set_option maxHeartbeats 1000000 in
theorem vals1 (w : World) (S B p : Nat) (t : TypeId) (x : Value) (fn : FuncId) (v : Value) (k : ByteArray) (kv : KV) (h : Sp w S p v [k]) (hC : Gives w B t x fn kv) (hB : B ≤ S) (_hS : S ≤ w.heap.size) (hk : k ∈ keys kv) :
    Calls Yba.prog 20 #[.pointer (some ⟨p, 0, none⟩), .iface t x] w (ResPost w S v (resOf kv [k])) := by
  have hnilr := fun w a n c n' c' => Lib.run_eql_slice_nil (P := Yba.prog) w 23 9 a n c n' c' Yba.underlying23
  have c0 := h.first
  have c1 := h.other
  have hv : v = .slice none 0 0 := h.isNil.2 rfl
  subst hv
  obtain ⟨vl, hvl⟩ := get_some_of_key hk
  have hke := notEmpty (h.full k List.mem_cons_self)
  have hcall := fun w' => hC.call k vl w' hvl
  have e1 : resOf kv [k] = vl := by show (SM.get kv k).getD none = vl; rw [hvl]; rfl
  rw [e1]
  simp only [List.headD_cons] at c0
  have HC := hid hcall
  have hah := hC.ahead
  have hme := hC.meth
  have hen := hC.enter
  clear hcall h hC hk e1
  go_enter Yba.func20, Yba.ntmps20
  go_wp2
  go_region_with (refine (HC.out w.drew (fun _ _ => rfl)).mono ?_; rintro e w1 ⟨rv, rfl, h1, h2, h3, h4⟩; have HV : Hid (SS w1 0 rv (strs vl)) := h1; have HN : Hid (rv = .slice none 0 0 ↔ vl = none) := h2; have HP := hid h3; have HB := hid h4; clear h1 h2 h3 h4)
  all_goals
    go_wp2
    go_ret
    refine ⟨rv, rfl, HV.out, HN.out, fun j hj => ?_, Keeps.of_below ((Below.refl w.heap.size w).drew.trans HB.out) _⟩
    rcases HP.out j hj with h | h
    · exact .inl (by omega)
    · exact .inr h

theorem take_succ_flat {α β : Type} (l : List α) (f : α → List β) (j : Nat) (h : j < l.length) : (l.take (j + 1)).flatMap f = (l.take j).flatMap f ++ f l[j] := by
  rw [List.take_add_one, List.flatMap_append, List.getElem?_eq_getElem h]
  simp
theorem slice_of_row {w : World} {B : Nat} {e : TypeId} {v : Value} {xs : List Value} (h : Row w B e v xs) : ∃ ao n c, v = .slice ao n c := by
  rcases h.form with ⟨rfl, _⟩ | ⟨g, cap, cur, rfl, _⟩
  · exact ⟨_, _, _, rfl⟩
  · exact ⟨_, _, _, rfl⟩

/-- What the loop over the sorted keys keeps: after j of them. -/
structure Loop (w2 : World) (kv : KV) (L : List ByteArray) (j : Nat) (vv : Value) (wr : World) : Prop where
  row : SS wr w2.heap.size vv ((L.take j).flatMap fun k => strs ((SM.get kv k).getD none))
  isNil : vv = .slice none 0 0 ↔ ((L.take j).flatMap fun k => strs ((SM.get kv k).getD none)) = []
  len : ((L.take j).flatMap fun k => strs ((SM.get kv k).getD none)).length ≤ j * 65536
  below : Below w2.heap.size w2 wr

theorem Loop.start (w2 : World) (kv : KV) (L : List ByteArray) : Loop w2 kv L 0 (.slice none 0 0) w2 := ⟨Row.nil _ _ _, by simp, by simp, Below.refl _ _⟩
theorem Loop.step {w2 wr w3 w4 : World} {kv : KV} {L : List ByteArray} {j : Nat} {vv v4 : Value} {vl : VL} (h : Loop w2 kv L j vv wr) (hj : j < L.length) (hg : SM.get kv L[j] = some vl) (hs : (strs vl).length ≤ 65536) (h3 : Below wr.heap.size wr w3)
    (hr : Row w4 w2.heap.size 9 v4 ((((L.take j).flatMap fun k => strs ((SM.get kv k).getD none))).map Value.string ++ (strs vl).map Value.string)) (hgr : w3.grownBy w4 vv.ownBlock) (hn : v4 = .slice none 0 0 ↔ vv = .slice none 0 0 ∧ (strs vl).map Value.string = []) : Loop w2 kv L (j + 1) v4 w4 := by
  have e : ((L.take (j + 1)).flatMap fun k => strs ((SM.get kv k).getD none)) = ((L.take j).flatMap fun k => strs ((SM.get kv k).getD none)) ++ strs vl := by
    rw [take_succ_flat _ _ _ hj, hg]; rfl
  refine ⟨?_, ?_, ?_, ?_⟩
  · rw [e]; unfold SS; rw [List.map_append]; exact hr
  · rw [e, hn, h.isNil, List.append_eq_nil_iff, List.map_eq_nil_iff]
  · rw [e, List.length_append]; have := h.len; omega
  · refine (h.below.trans (h3.mono h.below.size)).grown hgr (Nat.le_trans h.below.size h3.size) fun k hk => ?_
    exact (h.row.row.lt hk).1

/-- What stands when the keys are sorted: v' holds them; of the world at the call only v's own row has turned. -/
structure Sorted (w : World) (S : Nat) (v : Value) (L : List ByteArray) (v' : Value) (w2 : World) : Prop where
  row : SS w2 S v' L
  keeps : Keeps (fun b => v.ownBlock = some b) w w2
theorem Sorted.of {w w1 w2 : World} {S : Nat} {v v' : Value} {k k' : ByteArray} {r : List ByteArray} {o : Obj} (hg : (w.alloc o).drew.grownBy w1 v.ownBlock) (hp : v'.ownBlock = v.ownBlock ∨ ∀ k, v'.ownBlock = some k → (w.alloc o).drew.heap.size ≤ k)
    (h2 : SS w2 S v' (srt ((k' :: r) ++ [k]))) (hg2 : w1.grownBy w2 v'.ownBlock) : Sorted w S v (srt (k :: k' :: r)) v' w2 := by
  refine ⟨?_, ?_⟩
  · rw [srt_congr (List.perm_append_singleton k (k' :: r))] at h2
    exact h2
  · have k1 : Keeps (fun b => v.ownBlock = some b) w w1 := (Keeps.of_below ((Below.refl w.heap.size w).alloc (Nat.le_refl _) o).drew _).trans (Keeps.of_grown hg)
    refine ⟨hg2.os.trans k1.os, hg2.tape.trans k1.tape, hg2.output.trans k1.output, Nat.le_trans k1.size hg2.size, fun b hb hn => (hg2.block b (Nat.lt_of_lt_of_le hb k1.size) fun e => ?_).trans (k1.block b hb hn)⟩
    rcases hp with hp | hp
    · exact hn (hp ▸ e.symm)
    · have := hp b e.symm
      simp at this
      omega
set_option maxHeartbeats 2000000 in
theorem valsN (w : World) (S B p : Nat) (t : TypeId) (x : Value) (fn : FuncId) (v : Value) (k k' : ByteArray) (r : List ByteArray) (kv : KV) (h : Sp w S p v (k :: k' :: r)) (hC : Gives w B t x fn kv) (hB : B ≤ S) (hS : S ≤ w.heap.size) (hk : ∀ q ∈ k :: k' :: r, q ∈ keys kv) (hl : (k :: k' :: r).length ≤ 4096) (hs : Small kv) :
    Calls Yba.prog 20 #[.pointer (some ⟨p, 0, none⟩), .iface t x] w (ResPost w S v (resOf kv (k :: k' :: r))) := by
  have hnilr := fun w a n c n' c' => Lib.run_eql_slice_nil (P := Yba.prog) w 23 9 a n c n' c' Yba.underlying23
  obtain ⟨i0, hi, hz0, hz1, hz2⟩ := info_parts Yba.rowInfo9
  have c0 := h.first
  have c1 := h.other
  simp only [List.headD_cons] at c0
  have hke := notEmpty (h.full k List.mem_cons_self)
  have hne : ¬ v = .slice none 0 0 := fun e => by have := h.isNil.1 e; simp at this
  have hrow : Row (w.alloc (.cells #[.string k] 9)).drew S 9 v ((k' :: r).map Value.string) := (Keeps.of_below ((Below.refl _ w).alloc (Nat.le_refl _) _).drew fun _ => False).row h.row (fun _ _ h => h)
  have hone : Row (w.alloc (.cells #[.string k] 9)).drew 0 9 (.slice (some ⟨w.heap.size, 0, none⟩) 1 1) [.string k] := Row.lit w.drew 0 9 #[.string k] (Nat.zero_le _) (by simp [maxLen])
  have h1c : ∀ u ∈ [Value.string k], u.oneCell' = true := cells_strs [k]
  have hlen : ((k' :: r).map Value.string).length ≤ 4096 := by
    rw [List.length_map]
    simp only [List.length_cons] at hl ⊢
    omega
  have hb1 : ((k' :: r).map Value.string).length + [Value.string k].length ≤ maxLen := by simp only [maxLen, List.length_singleton]; omega
  have hb2 : (((k' :: r).map Value.string).length + [Value.string k].length) * 16 ≤ 140737488355328 := by simp only [List.length_singleton]; omega
  have d1 : (w.alloc (.cells #[.string k] 9)).cell? ⟨p, 1, none⟩ = some v := (((Below.refl w.heap.size w).alloc (Nat.le_refl _) _).cell h.ex).trans c1
  have hb3 : S ≤ (w.alloc (.cells #[.string k] 9)).drew.heap.size := by simp; omega
  obtain ⟨ao, n0, cp0, rfl⟩ := slice_of_row h.row
  have hao : ao.isNone = false := by
    cases ao with
    | none =>
      rcases h.row.row.form with ⟨e, _⟩ | ⟨_, _, _, e, _⟩
      · exact absurd e hne
      · cases e
    | some _ => rfl
  have H := hid h
  have HR := hid hrow
  have HO := hid hone
  have HC := hid hC
  have HB1 := hid hb1
  have HB2 := hid hb2
  have HB3 := hid hb3
  have HK := hid hk
  clear h hrow hone hlen hne hC hb1 hb2 hb3 hk
  go_enter Yba.func20, Yba.ntmps20
  go_wp2
  go_region_law (refine step_app rfl _ _ 23 rfl S 9 i0 _ 16 Yba.underlying23 hi hz0 hz1 hz2 rfl (.slice ao n0 cp0) (.slice (some ⟨w.heap.size, 0, none⟩) 1 1) rfl rfl ((k' :: r).map Value.string) [.string k] HR.out HO.out h1c HB1.out HB2.out HB3.out ?_; intro v' w1 hr hg hnil hpl; have HR1 := hid hr; have HG1 := hid hg; have HP1 := hid hpl; clear hr hg hnil hpl)
  all_goals
    have hrow1 : SS w1 S v' ((k' :: r) ++ [k]) := by
      unfold SS
      rw [List.map_append]
      exact HR1.out
    obtain ⟨ao', n1, cp1, rfl⟩ := slice_of_row HR1.out
    go_wp2_with fail
    refine (sort_any _ S ((k' :: r) ++ [k]) w1 hrow1 (by simp) (by simp only [List.length_append, List.length_cons, List.length_nil] at hl ⊢; omega)).mono ?_
    rintro e w2 ⟨rfl, hs2, hg2⟩
    have HS := hid (Sorted.of HG1.out HP1.out hs2 hg2)
    clear hrow1 hs2 hg2
    obtain ⟨L, hL⟩ : ∃ L, srt (k :: k' :: r) = L := ⟨_, rfl⟩
    rw [hL] at HS
    have hLm : ∀ q ∈ L, q ∈ keys kv := fun q hq => HK.out q ((srt_perm _).mem_iff.1 (hL ▸ hq))
    have hLn : L.length ≤ 4096 := by rw [← hL, srt_len]; exact hl
    have hres : resOf kv (k :: k' :: r) = if (L.flatMap fun q => strs ((SM.get kv q).getD none)) = [] then none else some (L.flatMap fun q => strs ((SM.get kv q).getD none)) := by
      show (if many kv (k :: k' :: r) = [] then none else some (many kv (k :: k' :: r))) = _
      unfold many
      rw [hL]
    have HRES := hid hres
    have HLM := hid hLm
    obtain ⟨gL, cL, hvL, hcells⟩ : ∃ g cap, (Value.slice ao' n1 cp1) = .slice (some ⟨g, 0, none⟩) L.length cap ∧ ∀ j (hj : j < L.length), w2.cell? ⟨g, j, none⟩ = some (.string L[j]) ∧ g < w2.heap.size := by
      rcases HS.out.row.shape with ⟨_, e⟩ | ⟨g, cap, e, _, _, _, hlt, hc⟩
      · have := congrArg List.length hL
        rw [srt_len, e] at this
        simp at this
      · exact ⟨g, cap, e, fun j hj => ⟨hc j hj, hlt⟩⟩
    injection hvL with e1 e2 e3
    subst e1 e2 e3
    have HCE := hid hcells
    have hsame : ∀ j, j < B → w2.heap[j]? = w.heap[j]? := fun j hj => HS.out.keeps.block j (by omega) fun e => by
      have := block_of_row H.out.row e
      omega
    have hgive := HC.out.same hsame
    have hah := hgive.ahead
    have hme := hgive.meth
    have hen := hgive.enter
    have HGV := hid hgive
    have hBw : B ≤ w2.heap.size := by have := HS.out.keeps.size; omega
    clear hLm hres hcells hsame hgive HR HO HB1 HB2 HB3 HK HR1 HG1 HP1 hL HC hl
    go_wp2
    go_loopw [6, 44] (fun vv i wr => ∃ j : Nat, j ≤ L.length ∧ i = .int .i64 j ∧ Loop w2 kv L j vv wr) (fun _ i _ => L.length - (intOf i).toNat)
    case atStart => exact ⟨0, Nat.zero_le _, rfl, Loop.start w2 kv L⟩
    case round =>
      obtain ⟨j, hj, rfl, hlp⟩ := hrel
      have HLP := hid hlp
      obtain ⟨aov, nv, cv, rfl⟩ := slice_of_row hlp.row
      by_cases hlt : j < L.length
      · obtain ⟨vl, hvl⟩ := get_some_of_key (HLM.out L[j] (List.getElem_mem hlt))
        have hvs : (strs vl).length ≤ 65536 := hs.2 _ (get_mem hvl)
        have cj : wr.cell? ⟨gL, j, none⟩ = some (.string L[j]) := (hlp.below.cell (HCE.out j hlt).2).trans (HCE.out j hlt).1
        have hsz := hlp.below.size
        have hll := hlp.len
        have hcall := HGV.out.call L[j] vl wr hvl fun i hi => hlp.below.block i (by omega)
        have HCA := hid hcall
        clear hlp hcall
        go_wp2_with fail
        refine HCA.out.mono ?_
        rintro e w3 ⟨rv, rfl, h1, h2, h3, h4⟩
        have HB4 := hid h4
        have hr4 : Row w3 w2.heap.size 9 (.slice aov nv cv) (((L.take j).flatMap fun q => strs ((SM.get kv q).getD none)).map Value.string) := Row.beyond HLP.out.row h4
        have hx4 : Row w3 0 9 rv ((strs vl).map Value.string) := h1
        have h1c4 := cells_strs (strs vl)
        have hs4 : w2.heap.size ≤ w3.heap.size := by have := h4.size; omega
        have HR4 := hid hr4
        have HX4 := hid hx4
        have hc1 : (((L.take j).flatMap fun q => strs ((SM.get kv q).getD none)).map Value.string).length + ((strs vl).map Value.string).length ≤ maxLen := by simp only [List.length_map, maxLen]; omega
        have hc2 : ((((L.take j).flatMap fun q => strs ((SM.get kv q).getD none)).map Value.string).length + ((strs vl).map Value.string).length) * 16 ≤ 140737488355328 := by simp only [List.length_map]; omega
        have HC1 := hid hc1
        have HC2 := hid hc2
        clear h1 h2 h3 h4 hr4 hx4 hc1 hc2
        go_wp2_with (at_builtin; refine wpList_app rfl _ _ 23 rfl w2.heap.size 9 i0 _ 16 Yba.underlying23 hi hz0 hz1 hz2 rfl (.slice aov nv cv) rv rfl rfl _ _ HR4.out HX4.out h1c4 HC1.out HC2.out hs4 ?_)
        intro v4 w4 hr hg hnil _
        have HL4 := hid (HLP.out.step hlt hvl hvs HB4.out hr hg (by rw [hnil]; simp))
        clear hr hg hnil
        go_wp2
        go_roundw
        case rel => exact ⟨j + 1, by omega, by go_num, HL4.out⟩
        case measure => simp [intOf]; omega
      · obtain rfl : j = L.length := by omega
        clear hlp
        go_wp2
        go_ret
        have h := HLP.out
        have ht : L.take L.length = L := List.take_length
        have hrw := h.row
        have hnl := h.isNil
        rw [ht] at hrw hnl
        have hst : strs (resOf kv (k :: k' :: r)) = L.flatMap fun q => strs ((SM.get kv q).getD none) := by
          rw [HRES.out]
          split
          · rename_i h; rw [h]; rfl
          · rfl
        refine ⟨.slice aov nv cv, rfl, ?_, ?_, fun b hb => .inr ?_, HS.out.keeps.trans (Keeps.of_below h.below _)⟩
        · rw [hst]; exact hrw.row.mono (Nat.zero_le _)
        · rw [hnl, HRES.out]
          split
          · rename_i h; simp [h]
          · rename_i h; simp [h]
        · have := (hrw.row.lt hb).1
          have := HS.out.keeps.size
          omega

theorem vals_any (w : World) (S B p : Nat) (t : TypeId) (x : Value) (fn : FuncId) (v : Value) (ss : List ByteArray) (kv : KV) (h : Sp w S p v ss) (hC : Gives w B t x fn kv) (hB : B ≤ S) (hS : S ≤ w.heap.size) (hk : ∀ q ∈ ss, q ∈ keys kv) (hl : ss.length ≤ 4096) (hs : Small kv) :
    Calls Yba.prog 20 #[.pointer (some ⟨p, 0, none⟩), .iface t x] w (ResPost w S v (resOf kv ss)) := by
  match ss, h, hk, hl with
  | [], h, _, _ => exact vals0 w S p v _ kv h
  | [k], h, hk, _ => exact vals1 w S B p t x fn v k kv h hC hB hS (hk k List.mem_cons_self)
  | k :: k' :: r, h, hk, hl => exact valsN w S B p t x fn v k k' r kv h hC hB hS hk hl hs
end Go.Proofs.Ybulkehgi.Vals
