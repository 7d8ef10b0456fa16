/-
  What the walk of LawS6677AWhole (f3) leans on.
-/
import Derived.Test.YbulkehgiPh
namespace Go.Proofs.Ybulkehgi.LawH
open Go.RowKit Fold Strs Spell SM Car Srt Vals ReadF Model Ph Flip

/-- One entry: its cells' values; ss: the strings behind Vals. -/
structure Ent where
  pick : Int
  mask : Int
  key : ByteArray
  vo : Option Addr
  vn : Nat
  vc : Nat
  ss : List ByteArray
structure EntAt (w : World) (b off i : Nat) (e : Ent) : Prop where
  c0 : w.cell? ⟨b, off + i * 4, none⟩ = some (.int .u8 e.pick)
  c1 : w.cell? ⟨b, off + i * 4 + 1, none⟩ = some (.int .u8 e.mask)
  c2 : w.cell? ⟨b, off + i * 4 + 2, none⟩ = some (.string e.key)
  c3 : w.cell? ⟨b, off + i * 4 + 3, none⟩ = some (.slice e.vo e.vn e.vc)
  sl : Sl w e.vo e.vn e.ss
  p0 : 0 ≤ e.pick
  p1 : e.pick ≤ 255
  m0 : 0 ≤ e.mask
  m1 : e.mask ≤ 255
  ks : e.key.size ≤ 140737488355328
  vs : e.vn ≤ 8796093022208
  lt : b < w.heap.size
theorem Sl.below {w w' : World} {ao : Option Addr} {n : Nat} {ss : List ByteArray} (h : Sl w ao n ss) (hb : Below w.heap.size w w') : Sl w' ao n ss :=
  ⟨h.1, h.2.1, fun a ha j v hj => (hb.cell (World.block_lt_of_cell? w _ (h.2.2 a ha j v hj))).trans (h.2.2 a ha j v hj)⟩
def sumN (es : List Ent) : Nat := (es.map (·.vn)).sum
theorem sum_take (es : List Ent) (k : Nat) (h : k < es.length) : sumN (es.take (k + 1)) = sumN (es.take k) + es[k].vn := by
  unfold sumN
  rw [List.take_add_one, List.getElem?_eq_getElem h, List.map_append, List.sum_append]
  simp
theorem sum_le (es : List Ent) (k : Nat) : sumN (es.take k) ≤ sumN es := by
  unfold sumN
  have : es = es.take k ++ es.drop k := (List.take_append_drop k es).symm
  have e : (es.map (·.vn)).sum = ((es.take k).map (·.vn)).sum + ((es.drop k).map (·.vn)).sum := by
    conv => lhs; rw [this]
    rw [List.map_append, List.sum_append]
  omega

def vlOf (vo : Option Addr) (ss : List ByteArray) : VL := match vo with | none => none | some _ => some ss
theorem strs_vlOf {w : World} {vo : Option Addr} {vn : Nat} {ss : List ByteArray} (h : Sl w vo vn ss) : strs (vlOf vo ss) = ss := by
  cases vo with
  | none =>
    have := h.1
    rw [h.2.1 rfl] at this
    rw [List.eq_nil_of_length_eq_zero this]
    rfl
  | some _ => rfl
theorem vlOf_none (vo : Option Addr) (ss : List ByteArray) : vlOf vo ss = none ↔ vo = none := by cases vo <;> simp [vlOf]
theorem sum_at (es : List Ent) (k : Nat) (h : k < es.length) : es[k].vn ≤ sumN es := by
  have h1 := sum_take es k h
  have h2 := sum_le es (k + 1)
  omega
theorem phase_cells {w : World} {ks vs : Value} {V : List Value} {kv : KV} {wr : World} (h : Phase w ks vs V kv wr) : ∃ aok ck aov cv, ks = .slice aok kv.length ck ∧ vs = .slice aov kv.length cv := by
  obtain ⟨aok, ck, h1, _⟩ := row_cells h.rk
  obtain ⟨aov, cv, h2, _⟩ := row_cells h.rv
  refine ⟨aok, ck, aov, cv, ?_, by rw [h2, h.len]⟩
  rw [h1, List.length_map]
  simp [keys]
theorem phase_key {w : World} {aok : Option Addr} {n ck : Nat} {vs : Value} {V : List Value} {kv : KV} {wr : World} (h : Phase w (.slice aok n ck) vs V kv wr) (q : Nat) (hq : q < kv.length) : ∃ g, aok = some ⟨g, 0, none⟩ ∧ wr.cell? ⟨g, q, none⟩ = some (.string kv[q].1) := by
  obtain ⟨ao, c, h1, h2⟩ := row_cells h.rk
  have hq' : q < ((keys kv).map Value.string).length := by simpa [keys] using hq
  obtain ⟨g, e, hc, _⟩ := h2 q hq'
  obtain rfl : aok = ao := by injection h1
  exact ⟨g, e, by rw [hc]; simp [keys]⟩
theorem phase_val {w : World} {aov : Option Addr} {n cv : Nat} {ks : Value} {V : List Value} {kv : KV} {wr : World} (h : Phase w ks (.slice aov n cv) V kv wr) (q : Nat) (hq : q < V.length) : ∃ g, aov = some ⟨g, 0, none⟩ ∧ wr.cell? ⟨g, q, none⟩ = some V[q] ∧ wr.frozen? ⟨g, q, none⟩ = false := by
  obtain ⟨ao, c, h1, h2⟩ := row_cells h.rv
  obtain ⟨g, e, hc, _, hf, _⟩ := h2 q hq
  obtain rfl : aov = ao := by injection h1
  exact ⟨g, e, hc, hf⟩

/-- The header carrier, i of its entries laid. -/
structure Hdr (w : World) (ks vs : Value) (V : List Value) (kv : KV) (H0 i : Nat) (wr : World) : Prop where
  ph : Phase w ks vs V kv wr
  ex : ∃ l, Holds wr H0 l ∧ keys l = (keys kv).take i ∧ ∀ x (hx : x < l.length) (hx' : x < kv.length), Inn wr wr.heap.size l[x].2 kv[x].2
theorem Holds.row_ne {w : World} {b : Nat} {l : List (ByteArray × Value)} (h : Holds w b l) {B : Nat} {e : TypeId} {v : Value} {xs : List Value} (hr : Row w B e v xs) : v.ownBlock ≠ some b := fun hb => by
  rcases hr.form with ⟨rfl, _⟩ | ⟨g, cap, cur, rfl, _, _, hg, _⟩
  · cases hb
  · have e : g = b := by simpa [Value.ownBlock] using hb
    subst e
    obtain ⟨es, clock, h1, _⟩ := h
    rw [h1] at hg
    cases hg
theorem Phase.mapped {w : World} {ks vs : Value} {V : List Value} {kv : KV} {wr w' : World} {b : Nat} {l : List (ByteArray × Value)} (h : Phase w ks vs V kv wr) (hH : Holds wr b l) (hg : wr.grownBy w' (some b)) (hb : w.heap.size ≤ b) : Phase w ks vs V kv w' := by
  have hK : Keeps (fun k => some b = some k) wr w' := Keeps.of_grown hg
  refine ⟨h.below.trans (hK.below h.below.size fun k e => by have := Option.some.inj e; omega), hK.row h.rk fun k hk e => Holds.row_ne hH h.rk (by rw [hk, e]), hK.row h.rv fun k hk e => Holds.row_ne hH h.rv (by rw [hk, e]), h.len, fun i h1 h2 => ?_, h.away, h.low, h.nodup, h.size, h.each⟩
  have hi := h.inn i h1 h2
  exact ⟨hK.row hi.row fun k hk e => Holds.row_ne hH hi.row.row (by rw [hk, e]), hi.isNil, fun k hk => Nat.lt_of_lt_of_le (hi.lt k hk) hK.size⟩
theorem put_new {l : List (ByteArray × Value)} {k : ByteArray} {v : Value} (h : k ∉ keys l) : put l k v = l ++ [(k, v)] := by
  induction l with
  | nil => rfl
  | cons p r ih =>
    simp only [keys, List.map_cons, List.mem_cons, not_or] at h
    rw [SM.put, if_neg (fun e => h.1 e.symm), ih h.2]
    rfl
theorem Hdr.laid {w : World} {ks vs : Value} {V : List Value} {kv : KV} {H0 i : Nat} {wr w2 w4 : World} {l : List (ByteArray × Value)} {v : Value} (hi : i < kv.length) (hH : Holds wr H0 l) (hk : keys l = (keys kv).take i) (hin : ∀ x (hx : x < l.length) (hx' : x < kv.length), Inn wr wr.heap.size l[x].2 kv[x].2)
    (hph : Phase w ks vs V kv wr) (hb : Below wr.heap.size wr w2) (hv : SS w2 wr.heap.size v (strs kv[i].2)) (hn : v = .slice none 0 0 ↔ kv[i].2 = none) (hg : w2.grownBy w4 (some H0)) (h4 : Holds w4 H0 (put l kv[i].1 v)) (hw : w.heap.size ≤ H0) : Hdr w ks vs V kv H0 (i + 1) w4 := by
  have hll : l.length = i := by
    have := congrArg List.length hk
    simp only [keys, List.length_map, List.length_take] at this
    omega
  have hnk : kv[i].1 ∉ keys l := by
    rw [hk]
    intro hm
    obtain ⟨x, hx, e⟩ := List.getElem_of_mem hm
    have hx1 : x < i := by simp only [List.length_take] at hx; omega
    have hnd := hph.nodup
    rw [List.getElem_take] at e
    have hi2 : i < (keys kv).length := by simpa [keys] using hi
    have e2 : (keys kv)[i] = kv[i].1 := by simp [keys]
    rw [← e2] at e
    have hpw := List.pairwise_iff_getElem.1 hnd
    exact hpw x i (by omega) hi2 hx1 e
  rw [put_new hnk] at h4
  have hH2 : Holds w2 H0 l := hH.below hb hH.lt
  have hK : Keeps (fun k => some H0 = some k) w2 w4 := Keeps.of_grown hg
  refine ⟨Phase.mapped (hph.beyond hb) hH2 hg hw, l ++ [(kv[i].1, v)], h4, ?_, fun x hx hx' => ?_⟩
  · unfold keys at hk ⊢
    rw [List.map_append, hk, List.take_add_one, List.getElem?_map, List.getElem?_eq_getElem hi]
    rfl
  · by_cases hxl : x < l.length
    · rw [List.getElem_append_left hxl]
      have h1 := hin x hxl hx'
      have h2 : Inn w2 w2.heap.size l[x].2 kv[x].2 := (h1.same hb.block).mono hb.size
      exact ⟨hK.row h2.row fun k hk e => Holds.row_ne hH2 h2.row.row (by rw [hk, e]), h2.isNil, fun k hk => Nat.lt_of_lt_of_le (h2.lt k hk) hK.size⟩
    · have hx2 : x = i := by simp at hx; omega
      subst hx2
      have e : (l ++ [(kv[x].1, v)])[x]'hx = (kv[x].1, v) := by rw [List.getElem_append_right (by omega)]; simp
      rw [e]
      exact ⟨(hK.row hv fun k hk e => Holds.row_ne hH2 hv.row (by rw [hk, e])).mono (Nat.zero_le _), hn, fun k hk => Nat.lt_of_lt_of_le (hv.row.lt hk).2 hK.size⟩

/-- The header's value cloned, the key read again, the entry laid. -/
def LaidH (w : World) (ks vs : Value) (V : List Value) (kv : KV) (H0 gk i : Nat) (key : ByteArray) (e : Ending) (w2 : World) : Prop :=
  ∃ v w4, e = .returned v ∧ w2.cell? ⟨gk, i, none⟩ = some (.string key) ∧ (Instr.mapUpdate 33 (.map (some H0)) (.string key) v).run Yba.prog w2 = .ok () w4 ∧ Hdr w ks vs V kv H0 (i + 1) w4
theorem clone_laidH {w : World} {ks vs : Value} {V : List Value} {kv : KV} {H0 gk i : Nat} {wr : World} {l : List (ByteArray × Value)} (hi : i < kv.length) (hiV : i < V.length) (hph : Phase w ks vs V kv wr) (hH : Holds wr H0 l) (hk : keys l = (keys kv).take i) (hin : ∀ x (hx : x < l.length) (hx' : x < kv.length), Inn wr wr.heap.size l[x].2 kv[x].2)
    (hc : wr.cell? ⟨gk, i, none⟩ = some (.string kv[i].1)) (hw : w.heap.size ≤ H0) : Calls Yba.prog 8 #[V[i]] wr.drew (LaidH w ks vs V kv H0 gk i kv[i].1) := by
  have hinn := hph.inn i hi hiV
  have hd : Below wr.heap.size wr wr.drew := (Below.refl _ wr).drew
  refine (clone_ss V[i] 0 (strs kv[i].2) wr.drew (hinn.row.row.beyond hd) (by have := hph.each kv[i] (List.getElem_mem hi); omega)).mono ?_
  rintro e w2 ⟨v, rfl, hv, hvn, hb2⟩
  have hb : Below wr.heap.size wr w2 := hd.trans hb2
  obtain ⟨w4, hup, hH4, hg4⟩ := run_update (P := Yba.prog) (t := 33) (hH.below hb hH.lt) Yba.underlying33 Yba.underlying9 kv[i].1 v
  exact ⟨v, w4, rfl, (hb.cell (World.block_lt_of_cell? wr _ hc)).trans hc, hup, Hdr.laid hi hH hk hin hph hb hv (hvn.trans hinn.isNil) hg4 hH4 hw⟩
theorem get_index2 {l : List (ByteArray × Value)} {kv : KV} (hn : (keys kv).Nodup) (hk : keys l = keys kv) {k : ByteArray} {vl : VL} (h : SM.get kv k = some vl) : ∃ x, ∃ hx : x < l.length, ∃ hx' : x < kv.length, kv[x].2 = vl ∧ SM.get l k = some l[x].2 := by
  obtain ⟨x, hx, h1, _⟩ := get_index h
  have hl : l.length = kv.length := by have := congrArg List.length hk; simpa [keys] using this
  have hxl : x < l.length := by omega
  refine ⟨x, hxl, hx, by rw [h1], ?_⟩
  have e : l[x].1 = k := by
    have e1 : (keys l)[x]'(by simpa [keys] using hxl) = l[x].1 := by simp [keys]
    have e2 : (keys kv)[x]'(by simpa [keys] using hx) = kv[x].1 := by simp [keys]
    rw [← e1]
    have : (keys l)[x]'(by simpa [keys] using hxl) = (keys kv)[x]'(by simpa [keys] using hx) := by congr 1
    rw [this, e2, h1]
  refine get_of_mem (by rw [hk]; exact hn) ?_
  rw [← e]
  exact List.getElem_mem hxl
theorem Hdr.car {w : World} {ks vs : Value} {V : List Value} {kv : KV} {H0 : Nat} {wr : World} (h : Hdr w ks vs V kv H0 kv.length wr) : CarH wr wr.heap.size H0 kv := by
  obtain ⟨hph, l, hH, hk, hin⟩ := h
  have hk' : keys l = keys kv := by rw [hk]; exact List.take_of_length_le (by simp [keys])
  refine ⟨hH.lt, l, hH, hk', fun k vl hg => ?_⟩
  obtain ⟨x, hx, hx', e1, e2⟩ := get_index2 hph.nodup hk' hg
  exact ⟨l[x].2, e2, e1 ▸ hin x hx hx'⟩

theorem want1_eq (kv : KV) (n1 e : ByteArray) : want kv n1 e false = notes1 n1 (keys kv) := by
  unfold want
  by_cases h : n1.size = 0
  · rw [if_pos h, notes1_nil h]
  · rw [if_neg h]
    unfold notes1
    apply List.filter_congr
    intro k _
    unfold sel
    cases e1 : spellB k n1 with
    | false => simp
    | true =>
      have : ¬ k.size = 0 := by rw [spell_size e1]; exact h
      simp only [Bool.false_and, Bool.not_false, Bool.and_true, decide_eq_false this]
theorem want2_eq (kv : KV) (n1 n2 : ByteArray) : want kv n2 n1 true = notes2 n1 n2 (keys kv) := by
  unfold want
  by_cases h : n2.size = 0
  · rw [if_pos h, notes2_nil h]
  · rw [if_neg h]
    unfold notes2
    apply List.filter_congr
    intro k _
    unfold sel
    cases e1 : spellB k n2 with
    | false => simp
    | true =>
      have : ¬ k.size = 0 := by rw [spell_size e1]; exact h
      cases spellB k n1 <;> simp only [Bool.and_true, Bool.not_false, Bool.not_true, Bool.and_false, decide_eq_false this]
/-- What stands when got1, got2, want1, want2 are there. -/
structure Four (g1 g2 m1 m2 : Value) (a b : VL) (w : World) : Prop where
  r1 : SS w 0 g1 (strs a)
  r2 : SS w 0 g2 (strs b)
  s1 : SS w 0 m1 (strs a)
  s2 : SS w 0 m2 (strs b)
  n1 : g1 = .slice none 0 0 ↔ m1 = .slice none 0 0
  n2 : g2 = .slice none 0 0 ↔ m2 = .slice none 0 0
theorem Four.beyond {g1 g2 m1 m2 : Value} {a b : VL} {w w' : World} (h : Four g1 g2 m1 m2 a b w) (hb : Below w.heap.size w w') : Four g1 g2 m1 m2 a b w' :=
  ⟨h.r1.row.beyond hb, h.r2.row.beyond hb, h.s1.row.beyond hb, h.s2.row.beyond hb, h.n1, h.n2⟩
theorem keeps_below {w w' : World} (h : Keeps (fun _ => False) w w') : Below w.heap.size w w' := h.below (Nat.le_refl _) fun _ h => h.elim

theorem run_makeMap_hint {t k e : TypeId} (h : Yba.prog.underlying t = some (.map k e)) (n : Int) (w : World) : (Instr.makeMap t (some (.int .i64 n))).run Yba.prog w = .ok (.map (some w.heap.size)) (w.alloc (.map #[] 0)) := by
  simp [Instr.makeMap, run_underlying h, asInt, newObj, Result.andThen]
  rfl


/-- 'len(m)' at the operation. -/
theorem wpList_len {P : Program} {ops : Array Oper} {rest : List Oper} {o : Oper} {a : Act} {Q : Exit → Act → World → Prop} {w : World} (hg : o.guard = none) (m : Operand) {t kt e : TypeId} (hop : o.op = Op.call { callee := Callee.builtin Builtin.len, args := #[m], argTypes := #[t] })
    (ht : P.underlying t = some (.map kt e)) (b : Nat) (l : List (ByteArray × Value)) (hm : a.eval m = .map (some b)) (hH : Holds w b l) (n : Nat) (hn : l.length = n) (h : wpList P ops Q rest (a.put o.dst (.int .i64 n)) w) : wpList P ops Q (o :: rest) a w := by
  subst hn
  refine wpList_plain hg fun K' hK' => ?_
  have hrun := run_len hH ht o.type
  unfold Oper.wp
  simp [execOp, hop, resolve, invoke, builtin, hm, hrun, Result.andThen]
  exact hK' _ _ h

theorem keys_len {α : Type} (l : List (ByteArray × α)) : (keys l).length = l.length := by simp [keys]
theorem get_at' {kv : KV} (hn : (keys kv).Nodup) (i : Nat) (hi : i < kv.length) : SM.get kv kv[i].1 = some kv[i].2 := get_of_mem hn (List.getElem_mem hi)
theorem CarH.len {w : World} {B b : Nat} {kv : KV} (h : CarH w B b kv) : ∃ l, Holds w b l ∧ l.length = kv.length := by
  obtain ⟨_, l, h1, h2, _⟩ := h
  exact ⟨l, h1, by rw [← keys_len l, h2, keys_len]⟩
theorem CarM.len {w : World} {B b : Nat} {kv : KV} (h : CarM w B b kv) : ∃ l, Holds w b l ∧ l.length = kv.length := by
  obtain ⟨_, l, h1, h2, _⟩ := h
  exact ⟨l, h1, by rw [← keys_len l, h2, keys_len]⟩
theorem CarH.look {w : World} {B b : Nat} {kv : KV} (h : CarH w B b kv) (hn : (keys kv).Nodup) (i : Nat) (hi : i < kv.length) : ∃ v, (Instr.lookup 33 (.map (some b)) (.string kv[i].1) true).run Yba.prog w = .ok (.tuple #[v, .bool true]) w ∧ Inn w B v kv[i].2 := by
  obtain ⟨_, l, h1, _, h3⟩ := h
  obtain ⟨v, h4, h5⟩ := h3 _ _ (get_at' hn i hi)
  have hl := run_lookup (P := Yba.prog) h1 Yba.underlying33 Yba.underlying9 (Yba.zeroValue23 w) kv[i].1 true
  rw [h4] at hl
  exact ⟨v, hl, h5⟩
theorem CarM.look {w : World} {B b : Nat} {kv : KV} (h : CarM w B b kv) (hn : (keys kv).Nodup) (i : Nat) (hi : i < kv.length) : ∃ s, (Instr.lookup 35 (.map (some b)) (.string kv[i].1) true).run Yba.prog w = .ok (.tuple #[.string s, .bool true]) w ∧ kv[i].2 = some [s] := by
  obtain ⟨_, l, h1, _, h3⟩ := h
  obtain ⟨s, h4, h5⟩ := h3 _ _ (get_at' hn i hi)
  have hl := run_lookup (P := Yba.prog) h1 Yba.underlying35 Yba.underlying9 (Yba.zeroValue9 w) kv[i].1 true
  rw [h4] at hl
  exact ⟨s, hl, h5⟩
theorem Phase.kept {w : World} {ks vs : Value} {V : List Value} {kv : KV} {wr w' : World} {M : Nat → Prop} (h : Phase w ks vs V kv wr) (hK : Keeps M wr w') (hw : ∀ k, M k → w.heap.size ≤ k) (h1 : ∀ k, ks.ownBlock = some k → ¬ M k) (h2 : ∀ k, vs.ownBlock = some k → ¬ M k) (h3 : ∀ i (hi : i < V.length) k, V[i].ownBlock = some k → ¬ M k) : Phase w ks vs V kv w' := by
  refine ⟨h.below.trans (hK.below h.below.size hw), hK.row h.rk h1, hK.row h.rv h2, h.len, fun i hi hi' => ?_, h.away, h.low, h.nodup, h.size, h.each⟩
  have hin := h.inn i hi hi'
  exact ⟨hK.row hin.row (h3 i hi'), hin.isNil, fun k hk => Nat.lt_of_lt_of_le (hin.lt k hk) hK.size⟩

/-! The string carrier. -/
/-- The string of each value, one at the most looked at. -/
def headOf (vl : VL) : ByteArray := (strs vl).headD ⟨#[]⟩
def Ones (kv : KV) (i : Nat) : Prop := ∀ x (hx : x < kv.length), x < i → ∃ s, kv[x].2 = some [s]
theorem Ones.set {kv : KV} {i : Nat} (h : Ones kv i) (hi : i < kv.length) (s : ByteArray) : Ones (kv.set i (kv[i].1, some [s])) (i + 1) := by
  intro x hx hxi
  by_cases e : i = x
  · subst e; exact ⟨s, by simp⟩
  · have hx' : x < kv.length := by simpa using hx
    obtain ⟨t, ht⟩ := h x hx' (by omega)
    exact ⟨t, by rw [List.getElem_set_ne e]; exact ht⟩
theorem Phase.one {w : World} {ks : Value} {V : List Value} {kv : KV} {wr : World} {gv n cap j : Nat} (h : Phase w ks (.slice (some ⟨gv, 0, none⟩) n cap) V kv wr) (hj : j < kv.length) (s : ByteArray) :
    Phase w ks (.slice (some ⟨gv, 0, none⟩) n cap) (V.set j (.slice (some ⟨wr.heap.size, 0, none⟩) 1 1)) (kv.set j (kv[j].1, some [s])) ((wr.alloc (.cells #[.string s] 9)).setCell ⟨gv, j, none⟩ (.slice (some ⟨wr.heap.size, 0, none⟩) 1 1)) := by
  have hb : Below wr.heap.size wr (wr.alloc (.cells #[.string s] 9)) := (Below.refl _ wr).alloc (Nat.le_refl _) _
  have hr : SS (wr.alloc (.cells #[.string s] 9)) wr.heap.size (.slice (some ⟨wr.heap.size, 0, none⟩) 1 1) (strs (some [s])) := Row.lit wr wr.heap.size 9 #[.string s] (Nat.le_refl _) (by simp [maxLen])
  exact (h.beyond hb).set (Fresh.of h hr (by simp)) hj (by simp [strs])
theorem Phase.one' {w : World} {ks : Value} {V : List Value} {kv : KV} {wr : World} {gv n cap j : Nat} (h : Phase w ks (.slice (some ⟨gv, 0, none⟩) n cap) V kv wr) (hj : j < kv.length) (hgv : gv < wr.heap.size) (s : ByteArray) :
    Phase w ks (.slice (some ⟨gv, 0, none⟩) n cap) (V.set j (.slice (some ⟨wr.heap.size, 0, none⟩) 1 1)) (kv.set j (kv[j].1, some [s])) ((wr.setCell ⟨gv, j, none⟩ (.slice (some ⟨wr.heap.size, 0, none⟩) 1 1)).alloc (.cells #[.string s] 9)) := by
  have := Phase.one h hj s
  rwa [World.setCell_alloc_past _ gv j _ hgv] at this
theorem inn_one {w : World} {B : Nat} {v : Value} {s : ByteArray} (h : Inn w B v (some [s])) : ∃ g c, v = .slice (some ⟨g, 0, none⟩) 1 c ∧ w.cell? ⟨g, 0, none⟩ = some (.string s) := by
  rcases h.row.shape with ⟨_, h0⟩ | ⟨g, c, h1, _, _, _, _, h2⟩
  · cases h0
  · exact ⟨g, c, h1, h2 0 (by simp [strs])⟩
structure MapC (w : World) (ks vs : Value) (V : List Value) (kv : KV) (M0 i : Nat) (wr : World) : Prop where
  ph : Phase w ks vs V kv wr
  ex : ∃ l, Holds wr M0 l ∧ keys l = (keys kv).take i ∧ ∀ x (hx : x < l.length) (hx' : x < kv.length), ∃ s, l[x].2 = .string s ∧ kv[x].2 = some [s]
theorem MapC.laid {w : World} {ks vs : Value} {V : List Value} {kv : KV} {M0 i : Nat} {wr w4 : World} {l : List (ByteArray × Value)} {s : ByteArray} (hi : i < kv.length) (hH : Holds wr M0 l) (hk : keys l = (keys kv).take i) (hin : ∀ x (hx : x < l.length) (hx' : x < kv.length), ∃ s, l[x].2 = .string s ∧ kv[x].2 = some [s])
    (hph : Phase w ks vs V kv wr) (hs : kv[i].2 = some [s]) (hg : wr.grownBy w4 (some M0)) (h4 : Holds w4 M0 (put l kv[i].1 (.string s))) (hw : w.heap.size ≤ M0) : MapC w ks vs V kv M0 (i + 1) w4 := by
  have hll : l.length = i := by
    have := congrArg List.length hk
    simp only [keys, List.length_map, List.length_take] at this
    omega
  have hnk : kv[i].1 ∉ keys l := by
    rw [hk]
    intro hm
    obtain ⟨x, hx, e⟩ := List.getElem_of_mem hm
    have hx1 : x < i := by simp only [List.length_take] at hx; omega
    have hnd := hph.nodup
    rw [List.getElem_take] at e
    have hi2 : i < (keys kv).length := by simpa [keys] using hi
    have e2 : (keys kv)[i] = kv[i].1 := by simp [keys]
    rw [← e2] at e
    have hpw := List.pairwise_iff_getElem.1 hnd
    exact hpw x i (by omega) hi2 hx1 e
  rw [put_new hnk] at h4
  refine ⟨Phase.mapped hph hH hg hw, l ++ [(kv[i].1, .string s)], h4, ?_, fun x hx hx' => ?_⟩
  · unfold keys at hk ⊢
    rw [List.map_append, hk, List.take_add_one, List.getElem?_map, List.getElem?_eq_getElem hi]
    rfl
  · by_cases hxl : x < l.length
    · rw [List.getElem_append_left hxl]
      exact hin x hxl hx'
    · have hx2 : x = i := by simp at hx; omega
      subst hx2
      have e : (l ++ [(kv[x].1, Value.string s)])[x]'hx = (kv[x].1, .string s) := by rw [List.getElem_append_right (by omega)]; simp
      rw [e]
      exact ⟨s, rfl, hs⟩
theorem MapC.car {w : World} {ks vs : Value} {V : List Value} {kv : KV} {M0 : Nat} {wr : World} (h : MapC w ks vs V kv M0 kv.length wr) : CarM wr wr.heap.size M0 kv := by
  obtain ⟨hph, l, hH, hk, hin⟩ := h
  have hk' : keys l = keys kv := by rw [hk]; exact List.take_of_length_le (by simp [keys])
  refine ⟨hH.lt, l, hH, hk', fun k vl hg => ?_⟩
  obtain ⟨x, hx, hx', e1, e2⟩ := get_index2 hph.nodup hk' hg
  obtain ⟨s, h1, h2⟩ := hin x hx hx'
  exact ⟨s, by rw [e2, h1], by rw [← e1, h2]⟩

/-! The third carrier. -/
theorem row_ne_37 {w : World} {B : Nat} {e : TypeId} {v : Value} {xs : List Value} (h : Row w B e v xs) (he : e ≠ 37) {ob : Nat} {cs : Array Value} {fz : Nat × Nat} (ho : w.heap[ob]? = some (.cells cs 37 fz)) {k : Nat} (hk : v.ownBlock = some k) : k ≠ ob := fun hb => by
  subst hb
  rcases h.form with ⟨rfl, _⟩ | ⟨g, cap, cur, rfl, _, _, hg, _⟩
  · cases hk
  · have e' : g = k := by simpa [Value.ownBlock] using hk
    subst e'
    rw [ho] at hg
    injection hg with h
    injection h with _ h _
    exact he h.symm
structure Own (w : World) (ks vs : Value) (V : List Value) (kv : KV) (ob : Nat) (kc vv : Value) (Vc : List Value) (wr : World) : Prop where
  ph : Phase w ks vs V kv wr
  at_ : wr.heap[ob]? = some (.cells #[kc, vv, .int .i64 0] 37 (0, 0))
  ge : w.heap.size ≤ ob
  rk : SS wr w.heap.size kc (keys kv)
  nk : kc = .slice none 0 0 ↔ ks = .slice none 0 0
  rv : Row wr w.heap.size 23 vv Vc
  le : Vc.length ≤ kv.length
  inn : ∀ x (hx : x < Vc.length) (hx' : x < kv.length), Inn wr wr.heap.size Vc[x] kv[x].2
  nv : ∀ k, vv.ownBlock = some k → vs.ownBlock ≠ some k
theorem Own.lt {w : World} {ks vs : Value} {V : List Value} {kv : KV} {ob : Nat} {kc vv : Value} {Vc : List Value} {wr : World} (h : Own w ks vs V kv ob kc vv Vc wr) : ob < wr.heap.size := (Array.getElem?_eq_some_iff.1 h.at_).1
theorem Own.start {w : World} {ks vs : Value} {V : List Value} {kv : KV} {kc : Value} {wr : World} (ph : Phase w ks vs V kv wr) (rk : SS wr w.heap.size kc (keys kv)) (nk : kc = .slice none 0 0 ↔ ks = .slice none 0 0) : Own w ks vs V kv wr.heap.size kc (.slice none 0 0) [] (wr.alloc (.cells #[kc, .slice none 0 0, .int .i64 0] 37)) :=
  ⟨ph.beyond ((Below.refl _ wr).alloc (Nat.le_refl _) _), heap_alloc_new wr _, ph.below.size, rk.row.beyond ((Below.refl _ wr).alloc (Nat.le_refl _) _), nk, Row.nil _ _ _, Nat.zero_le _, fun x hx => by simp at hx, fun k hk => by cases hk⟩
theorem Own.cells {w : World} {ks vs : Value} {V : List Value} {kv : KV} {ob : Nat} {kc vv : Value} {Vc : List Value} {wr : World} (h : Own w ks vs V kv ob kc vv Vc wr) : wr.cell? ⟨ob, 1, none⟩ = some vv ∧ wr.frozen? ⟨ob, 1, none⟩ = false :=
  ⟨by simp [World.cell?, h.at_], frozen_of_row wr ob 1 _ _ h.at_⟩
theorem Own.kept {w : World} {ks vs : Value} {V : List Value} {kv : KV} {ob : Nat} {kc vv : Value} {Vc : List Value} {wr w' : World} (h : Own w ks vs V kv ob kc vv Vc wr) (hb : Below wr.heap.size wr w') : Own w ks vs V kv ob kc vv Vc w' :=
  ⟨h.ph.beyond hb, (hb.block ob h.lt).trans h.at_, h.ge, h.rk.row.beyond hb, h.nk, h.rv.beyond hb, h.le, fun x h1 h2 => ((h.inn x h1 h2).same hb.block).mono hb.size, h.nv⟩
/-- own.vals = append(own.vals, v) -/
theorem Own.laid {w : World} {ks vs : Value} {V : List Value} {kv : KV} {ob : Nat} {kc vv vv' v : Value} {Vc : List Value} {wr w4 : World} {o : Obj} (h : Own w ks vs V kv ob kc vv Vc wr) (hi : Vc.length < kv.length) (hg : (wr.alloc o).grownBy w4 vv.ownBlock) (hr : Row w4 w.heap.size 23 vv' (Vc ++ [v]))
    (hp : vv'.ownBlock = vv.ownBlock ∨ ∀ k, vv'.ownBlock = some k → (wr.alloc o).heap.size ≤ k) (hv : Inn wr wr.heap.size v kv[Vc.length].2) :
    w4.cell? ⟨ob, 1, none⟩ = some vv ∧ w4.frozen? ⟨ob, 1, none⟩ = false ∧ Own w ks vs V kv ob kc vv' (Vc ++ [v]) (w4.setCell ⟨ob, 1, none⟩ vv') := by
  have hK : Keeps (fun b => vv.ownBlock = some b) wr w4 := (Keeps.alloc wr o _).trans (Keeps.of_grown hg)
  have hat : w4.heap[ob]? = some (.cells #[kc, vv, .int .i64 0] 37 (0, 0)) := (hK.block ob h.lt fun e => row_ne_37 h.rv (by decide) h.at_ e rfl).trans h.at_
  have hS : Keeps (fun b => b = ob) w4 (w4.setCell ⟨ob, 1, none⟩ vv') := Keeps.set _ _ _ rfl
  have hM : Keeps (fun b => vv.ownBlock = some b ∨ b = ob) wr (w4.setCell ⟨ob, 1, none⟩ vv') := (hK.mono fun _ _ h => .inl h).trans (hS.mono fun _ _ h => .inr h)
  have h9 : ∀ (B : Nat) (x : Value) (xs : List Value), Row wr B 9 x xs → ∀ k, x.ownBlock = some k → ¬ (vv.ownBlock = some k ∨ k = ob) := by
    rintro B x xs hx k hk (e | e)
    · rcases Row.type_ne hx h.rv (by decide) with h1 | h1
      · rw [h1] at hk; cases hk
      · exact h1 (by rw [hk, e])
    · exact row_ne_37 hx (by decide) h.at_ hk e
  have hin : ∀ (x : Value) (vl : VL), Inn wr wr.heap.size x vl → Inn (w4.setCell ⟨ob, 1, none⟩ vv') (w4.setCell ⟨ob, 1, none⟩ vv').heap.size x vl := fun x vl hx =>
    ⟨hM.row hx.row (h9 _ _ _ hx.row.row), hx.isNil, fun k hk => Nat.lt_of_lt_of_le (hx.lt k hk) hM.size⟩
  refine ⟨by simp [World.cell?, hat], frozen_of_row w4 ob 1 _ _ hat, Phase.kept h.ph hM ?_ (h9 _ _ _ h.ph.rk) ?_ (fun i hi k hk => h9 _ _ _ (h.ph.inn i (by rw [← h.ph.len]; exact hi) hi).row.row k hk), ?_, h.ge, hM.row h.rk (h9 _ _ _ h.rk.row), h.nk, ?_, ?_, fun x h1 h2 => ?_, fun k hk e => ?_⟩
  · rintro k (e | e)
    · exact (h.rv.lt e).1
    · rw [e]; exact h.ge
  · rintro k hk (e | e)
    · exact h.nv k e hk
    · exact row_ne_37 h.ph.rv (by decide) h.at_ hk e
  · rw [heap_setCell_same w4 ob 1 _ 37 vv' hat]
    rfl
  · exact hS.row hr fun k hk e => by
      subst e
      exact row_ne_37 hr (by decide) hat hk rfl
  · simp; omega
  · by_cases hx : x < Vc.length
    · rw [List.getElem_append_left hx]
      exact hin _ _ (h.inn x hx h2)
    · have hx2 : x = Vc.length := by simp at h1; omega
      subst hx2
      have e : (Vc ++ [v])[Vc.length]'h1 = v := by simp
      rw [e]
      exact hin _ _ hv
  · rcases hp with hp | hp
    · exact h.nv k (hp ▸ hk) e
    · have h1 := hp k hk
      have h2 := (h.ph.rv.lt e).2
      simp at h1
      omega
theorem Own.car {w : World} {ks vs : Value} {V : List Value} {kv : KV} {ob : Nat} {kc vv : Value} {Vc : List Value} {wr : World} (h : Own w ks vs V kv ob kc vv Vc wr) (hl : Vc.length = kv.length) (hn : kv = [] → ks = .slice none 0 0) : CarO wr wr.heap.size ob 0 kv := by
  refine ⟨kc, vv, Vc, ⟨by simp [World.cell?, h.at_], by simp [World.cell?, h.at_], by simp [World.cell?, h.at_], fun j => frozen_of_row wr ob j _ _ h.at_, h.lt, h.rk.row.mono (Nat.zero_le _), h.rv.mono (Nat.zero_le _), hl, fun i h1 h2 => h.inn i h2 h1, fun k hk => ⟨(h.rk.row.lt hk).2, row_ne_37 h.rk.row (by decide) h.at_ hk⟩, fun k hk => ⟨(h.rv.lt hk).2, row_ne_37 h.rv (by decide) h.at_ hk⟩, fun i hi e => row_ne_37 (h.inn i hi (by omega)).row.row (by decide) h.at_ e rfl, fun e => h.nk.2 (hn e)⟩⟩
theorem Own.read {w : World} {ks vs : Value} {V : List Value} {kv : KV} {ob : Nat} {kc vv : Value} {Vc : List Value} {wr w2 : World} (h : Own w ks vs V kv ob kc vv Vc wr) (hK : Keeps (fun k => k = ob) wr w2) : Phase w ks vs V kv w2 :=
  Phase.kept h.ph hK (fun k e => e ▸ h.ge) (fun _ hk => row_ne_37 h.ph.rk (by decide) h.at_ hk) (fun _ hk => row_ne_37 h.ph.rv (by decide) h.at_ hk) (fun i hi _ hk => row_ne_37 (h.ph.inn i (by rw [← h.ph.len]; exact hi) hi).row.row (by decide) h.at_ hk)
/-- The value cloned, appended, own.vals stored. -/
def LaidO (w : World) (ks vs : Value) (V : List Value) (kv : KV) (ob : Nat) (kc vv : Value) (Vc : List Value) (e : Ending) (w2 : World) : Prop :=
  ∃ vo vn vc xo xn xc w4, e = .returned (.slice vo vn vc) ∧ w2.cell? ⟨ob, 1, none⟩ = some vv ∧ ob < w2.heap.size ∧ (Builtin.append_ #[26, 26] 26 #[vv, .slice (some ⟨w2.heap.size, 0, none⟩) 1 1]).run Yba.prog (w2.alloc (.cells #[.slice vo vn vc] 23)) = .ok (.slice xo xn xc) w4 ∧ w4.cell? ⟨ob, 1, none⟩ = some vv ∧ w4.frozen? ⟨ob, 1, none⟩ = false ∧ Own w ks vs V kv ob kc (.slice xo xn xc) (Vc ++ [.slice vo vn vc]) (w4.setCell ⟨ob, 1, none⟩ (.slice xo xn xc))
theorem clone_laidO {w : World} {ks vs : Value} {V : List Value} {kv : KV} {ob : Nat} {kc vv : Value} {Vc : List Value} {wr : World} (h : Own w ks vs V kv ob kc vv Vc wr) (i : Nat) (hi : i = Vc.length) (hil : i < kv.length) (hiV : i < V.length) (hkl : kv.length ≤ 4096) : Calls Yba.prog 8 #[V[i]] wr.drew (LaidO w ks vs V kv ob kc vv Vc) := by
  subst hi
  obtain ⟨i23, hi23, hz230, hz231, hz232⟩ := info_parts Yba.rowInfo23
  have hinn := h.ph.inn _ hil hiV
  have hd : Below wr.heap.size wr wr.drew := (Below.refl _ wr).drew
  refine (clone_ss _ 0 (strs kv[Vc.length].2) wr.drew (hinn.row.row.beyond hd) (by have := h.ph.each kv[Vc.length] (List.getElem_mem hil); omega)).mono ?_
  rintro e w2 ⟨v, rfl, hv, hvn, hb2⟩
  have hb : Below wr.heap.size wr w2 := hd.trans hb2
  have h2 := h.kept hb
  have hal : Below w2.heap.size w2 (w2.alloc (.cells #[v] 23)) := (Below.refl _ w2).alloc (Nat.le_refl _) _
  obtain ⟨vv', w4, hrun, hr, hg, _, hp⟩ := run_app (w2.alloc (.cells #[v] 23)) w.heap.size 26 26 23 i23 _ 24 Yba.underlying26 hi23 hz230 hz231 hz232 rfl vv _ Vc [v] (h2.rv.beyond hal) (Row.lit w2 0 23 #[v] (Nat.zero_le _) (by simp [maxLen])) (by
    intro u hu
    rw [List.mem_singleton.1 hu]
    obtain ⟨ao, n, c, rfl⟩ := slice_of_row hv.row
    rfl) (by simp [maxLen]; omega) (by simp; omega) (Nat.le_trans h2.ph.below.size hal.size)
  obtain ⟨c1, f1, ho⟩ := h2.laid (by omega) hg hr hp ⟨hv.row.mono (Nat.zero_le _), hvn.trans hinn.isNil, fun k hk => (hv.row.lt hk).2⟩
  obtain ⟨vo, vn, vc, rfl⟩ := slice_of_row hv.row
  obtain ⟨xo, xn, xc, rfl⟩ := slice_of_row hr
  exact ⟨vo, vn, vc, xo, xn, xc, w4, rfl, h2.cells.1, h2.lt, hrun, c1, f1, ho⟩
theorem own_nil {w6 w : World} {B ob : Nat} {n : Int} {kv : KV} {kc vv : Value} {Vc : List Value} {ks : Value} {S : Nat} (h : CarOat w6 B ob n kv kc vv Vc) (hk : Row w S 9 ks ((keys kv).map Value.string)) (hn : kv = [] → ks = .slice none 0 0) : kc = .slice none 0 0 ↔ ks = .slice none 0 0 := by
  by_cases e : kv = []
  · exact ⟨fun _ => hn e, fun _ => h.nk e⟩
  · have hl : 0 < (keys kv).length := by rw [keys_len]; exact List.length_pos_iff.2 e
    constructor
    · rintro rfl
      rcases h.rk.shape with ⟨_, h0⟩ | ⟨_, _, h0, _⟩
      · rw [h0] at hl; simp at hl
      · cases h0
    · rintro rfl
      rcases hk.form with ⟨_, h0⟩ | ⟨_, _, _, h0, _⟩
      · have := congrArg List.length h0
        simp at this
        rw [this] at hl; simp at hl
      · cases h0
theorem row_at {w : World} {B : Nat} {ao : Option Addr} {n c : Nat} {xs : List Value} {e : TypeId} (h : Row w B e (.slice ao n c) xs) (q : Nat) (hq : q < xs.length) : ∃ g, ao = some ⟨g, 0, none⟩ ∧ w.cell? ⟨g, q, none⟩ = some xs[q] ∧ w.frozen? ⟨g, q, none⟩ = false := by
  obtain ⟨ao', c', h1, h2⟩ := row_cells h
  obtain ⟨g, e, hc, _, hf, _⟩ := h2 q hq
  obtain rfl : ao = ao' := by injection h1
  exact ⟨g, e, hc, hf⟩
/-- append as a step of a region that draws, its run told by an equation. -/
theorem step_app_eq {w : World} {ops : Array Oper} {o : Oper} {a : Act} {K : Act → World → Prop} {Q : Exit → Act → World → Prop} {E : Prop} (hgd : o.guard = none) (s x : Operand) (t : TypeId)
    (ho : o.op = .call { callee := .builtin .append, args := #[s, x], argTypes := #[t, t] }) (v y : Value) (hs : a.eval s = v) (hy : a.eval x = y) {v' : Value} {w' : World} (hr : (Builtin.append_ #[t, t] o.type #[v, y]).run Yba.prog w = .ok v' w') (h : K (a.put o.dst v') w') :
    if Region.wanted o (yielded ops a.tmps) = true then Oper.wp Yba.prog o a w K Q else E := by
  have hw : Region.wanted o (yielded ops a.tmps) = true := by simp [Region.wanted, hgd]
  rw [if_pos hw]
  unfold Oper.wp execOp
  simp only [ho, resolve, invoke, builtin, Sem.run_bind, Sem.run_pure, Result.andThen_ok, List.map_toArray, List.map_cons, List.map_nil, hs, hy, hr]
  exact h
/-- slices.Clone of the keys. -/
def KeysCopied (w : World) (ks : Value) (kv : KV) (wr : World) (e : Ending) (w' : World) : Prop := ∃ kc, e = .returned kc ∧ SS w' w.heap.size kc (keys kv) ∧ (kc = .slice none 0 0 ↔ ks = .slice none 0 0) ∧ Below wr.heap.size wr w'
theorem clone_keys {w : World} {ks vs : Value} {V : List Value} {kv : KV} {wr : World} (h : Phase w ks vs V kv wr) (hkl : kv.length ≤ 4096) : Calls Yba.prog 9 #[ks] wr (KeysCopied w ks kv wr) := by
  have hrk : SS wr w.heap.size ks (keys kv) := h.rk
  rcases hrk.shape with ⟨rfl, he⟩ | ⟨g, cap, rfl, _, _, _, _, hc⟩
  · refine (Yba.slices_Clone_string_nil 0 0 wr).mono ?_
    rintro e w' ⟨rfl, rfl⟩
    exact ⟨_, rfl, by rw [he]; exact Row.nil _ _ _, by simp, Below.refl _ _⟩
  · refine (Yba.slices_Clone_string g 0 (keys kv).length cap (keys kv) wr (Nat.le_refl _) (by rw [keys_len]; omega) (fun j hj => ?_)).mono ?_
    · rw [Nat.zero_add, hc j hj]
      simp [List.getD_eq_getElem?_getD, List.getElem?_eq_getElem hj]
    · rintro e w' ⟨v', rfl, ho, hne, hb⟩
      refine ⟨v', rfl, ?_, ⟨fun e => absurd e hne, fun e => by cases e⟩, hb⟩
      rw [List.take_length] at ho
      have hr : Row w' wr.heap.size 9 v' ((keys kv).map Value.string) := by
        unfold Row
        rw [List.length_map]
        exact ho
      exact hr.mono h.below.size
end Go.Proofs.Ybulkehgi.LawH
