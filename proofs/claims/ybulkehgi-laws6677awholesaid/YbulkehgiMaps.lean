/-
  MAPS KEYED BY STRINGS, over whatever program: what a block that is a map holds, as a list of pairs in the order in which they were laid; what a look-up, a store, 'len' and a range over it do.
-/
import Derived.WalkKit
import Derived.MapKept
import Derived.Maps.OwnSet
import Derived.Laws.IdiomRangeMap
import Derived.Maps.Range
import Derived.RegionTactic
namespace Go.Proofs.Ybulkehgi.SM
open Go.RowKit
open Go.ChangeMaps (setBlock)

/-! ### Plain: association lists -/
def get {α : Type} : List (ByteArray × α) → ByteArray → Option α
  | [], _ => none
  | p :: r, k => if p.1 = k then some p.2 else get r k
def put {α : Type} : List (ByteArray × α) → ByteArray → α → List (ByteArray × α)
  | [], k, v => [(k, v)]
  | p :: r, k, v => if p.1 = k then (k, v) :: r else p :: put r k v
def keys {α : Type} (l : List (ByteArray × α)) : List ByteArray := l.map (·.1)

theorem get_none {α : Type} {l : List (ByteArray × α)} {k : ByteArray} (h : k ∉ keys l) : get l k = none := by
  induction l with
  | nil => rfl
  | cons p r ih =>
    simp only [keys, List.map_cons, List.mem_cons, not_or] at h
    rw [get, if_neg (fun e => h.1 e.symm)]
    exact ih h.2
theorem get_mem {α : Type} {l : List (ByteArray × α)} {k : ByteArray} {v : α} (h : get l k = some v) : (k, v) ∈ l := by
  induction l with
  | nil => cases h
  | cons p r ih =>
    rw [get] at h
    by_cases e : p.1 = k
    · rw [if_pos e] at h
      cases h
      subst e
      exact List.mem_cons_self
    · rw [if_neg e] at h
      exact List.mem_cons_of_mem _ (ih h)
theorem get_of_mem {α : Type} {l : List (ByteArray × α)} {k : ByteArray} {v : α} (hn : (keys l).Nodup) (h : (k, v) ∈ l) : get l k = some v := by
  induction l with
  | nil => cases h
  | cons p r ih =>
    simp only [keys, List.map_cons, List.nodup_cons] at hn
    rw [get]
    rcases List.mem_cons.1 h with rfl | h
    · rw [if_pos rfl]
    · have : p.1 ≠ k := fun e => hn.1 (List.mem_map.2 ⟨(k, v), h, e.symm⟩)
      rw [if_neg this]
      exact ih hn.2 h
theorem get_some_of_key {α : Type} {l : List (ByteArray × α)} {k : ByteArray} (h : k ∈ keys l) : ∃ v, get l k = some v := by
  induction l with
  | nil => cases h
  | cons p r ih =>
    rw [get]
    by_cases e : p.1 = k
    · exact ⟨p.2, if_pos e⟩
    · rw [if_neg e]
      simp only [keys, List.map_cons, List.mem_cons] at h
      rcases h with h | h
      · exact absurd h.symm e
      · exact ih h
theorem mem_keys_put {α : Type} {l : List (ByteArray × α)} {k : ByteArray} {v : α} (k' : ByteArray) : k' ∈ keys (put l k v) ↔ k' = k ∨ k' ∈ keys l := by
  induction l with
  | nil => simp [put, keys]
  | cons p r ih =>
    rw [put]
    by_cases e : p.1 = k
    · subst e
      simp [keys]
    · rw [if_neg e]
      simp only [keys, List.map_cons, List.mem_cons] at ih ⊢
      rw [ih]
      constructor
      · rintro (h | h | h)
        · exact .inr (.inl h)
        · exact .inl h
        · exact .inr (.inr h)
      · rintro (h | h | h)
        · exact .inr (.inl h)
        · exact .inl h
        · exact .inr (.inr h)
theorem get_put_same {α : Type} (l : List (ByteArray × α)) (k : ByteArray) (v : α) : get (put l k v) k = some v := by
  induction l with
  | nil => simp [put, get]
  | cons p r ih =>
    rw [put]
    by_cases e : p.1 = k
    · simp [e, get]
    · rw [if_neg e, get, if_neg e, ih]
theorem get_put_other {α : Type} (l : List (ByteArray × α)) (k k' : ByteArray) (v : α) (h : k ≠ k') : get (put l k v) k' = get l k' := by
  induction l with
  | nil => simp [put, get, h]
  | cons p r ih =>
    rw [put]
    by_cases e : p.1 = k
    · subst e
      simp [get, h]
    · rw [if_neg e, get, get, ih]
theorem filter_absent {α : Type} (k : ByteArray) : ∀ {l : List (ByteArray × α)}, k ∉ keys l → l.filter (fun p => decide (p.1 ≠ k)) = l
  | [], _ => rfl
  | p :: r, h => by
    simp only [keys, List.map_cons, List.mem_cons, not_or] at h
    rw [List.filter_cons, if_pos (by simpa using fun e => h.1 e.symm), filter_absent k h.2]
theorem put_perm {α : Type} (k : ByteArray) (v : α) : ∀ {l : List (ByteArray × α)}, (keys l).Nodup → (put l k v).Perm (l.filter (fun p => decide (p.1 ≠ k)) ++ [(k, v)])
  | [], _ => by simp [put]
  | p :: r, hn => by
    simp only [keys, List.map_cons, List.nodup_cons] at hn
    rw [put, List.filter_cons]
    by_cases e : p.1 = k
    · subst e
      rw [if_pos rfl, if_neg (by simp), filter_absent _ hn.1]
      exact (List.perm_append_singleton _ _).symm
    · rw [if_neg e, if_pos (by simpa using e)]
      exact (put_perm k v hn.2).cons p

/-! ### The block -/
def pairOf (e : MapEntry) : Value × Value := (e.key, e.val)
def asPair (p : ByteArray × Value) : Value × Value := (.string p.1, p.2)
/-- Block b is a map that holds the pairs l. -/
def Holds (w : World) (b : Nat) (l : List (ByteArray × Value)) : Prop :=
  ∃ es clock, w.heap[b]? = some (.map es clock) ∧ MapKept.Stamped es clock ∧ es.toList.map pairOf = l.map asPair

theorem Holds.nodup {w : World} {b : Nat} {l : List (ByteArray × Value)} (h : Holds w b l) : (keys l).Nodup := by
  obtain ⟨es, clock, _, hs, he⟩ := h
  have h3 := hs.2.2
  have e : es.toList.map (·.key) = (keys l).map Value.string := by
    have := congrArg (List.map Prod.fst) he
    simp only [List.map_map] at this
    simpa [keys, Function.comp_def, pairOf, asPair] using this
  rw [e] at h3
  exact (List.pairwise_map.1 h3).imp fun h e => h (by rw [e])
theorem Holds.lt {w : World} {b : Nat} {l : List (ByteArray × Value)} (h : Holds w b l) : b < w.heap.size := by
  obtain ⟨es, clock, hb, _⟩ := h
  rcases Nat.lt_or_ge b w.heap.size with h | h
  · exact h
  · rw [Array.getElem?_eq_none h] at hb; cases hb
theorem Holds.same {w w' : World} {b : Nat} {l : List (ByteArray × Value)} (h : Holds w b l) (hb : w'.heap[b]? = w.heap[b]?) : Holds w' b l := by
  obtain ⟨es, clock, h1, h2⟩ := h
  exact ⟨es, clock, hb.trans h1, h2⟩
theorem Holds.alloc {w : World} {b : Nat} {l : List (ByteArray × Value)} (h : Holds w b l) (o : Obj) : Holds (w.alloc o) b l := h.same (Below.heap_alloc w o b h.lt)
theorem Holds.made (w : World) : Holds (w.alloc (.map #[] 0)) w.heap.size [] := ⟨#[], 0, heap_alloc_new w _, MapKept.stamped_empty 0, rfl⟩
theorem Holds.below {B : Nat} {w w' : World} {b : Nat} {l : List (ByteArray × Value)} (h : Holds w b l) (hb : Below B w w') (hlt : b < B) : Holds w' b l := h.same (hb.block b hlt)
theorem Holds.kept {w w' : World} {row : Option Nat} {b : Nat} {l : List (ByteArray × Value)} (h : Holds w b l) (hg : w.grownBy w' row) (hne : some b ≠ row) : Holds w' b l := h.same (hg.block b h.lt hne)

def fnd : List (ByteArray × Value) → ByteArray → Nat → Option (Nat × Value)
  | [], _, _ => none
  | p :: r, k, i => if p.1 = k then some (i, p.2) else fnd r k (i + 1)
theorem fnd_get : ∀ (l : List (ByteArray × Value)) (k : ByteArray) (i : Nat), (fnd l k i).map (·.2) = get l k
  | [], _, _ => rfl
  | p :: r, k, i => by
    rw [fnd, get]
    by_cases e : p.1 = k
    · rw [if_pos e, if_pos e]; rfl
    · rw [if_neg e, if_neg e]; exact fnd_get r k (i + 1)
theorem fnd_none : ∀ (l : List (ByteArray × Value)) (k : ByteArray) (i : Nat), fnd l k i = none → k ∉ keys l ∧ ∀ v, put l k v = l ++ [(k, v)]
  | [], _, _, _ => ⟨by simp [keys], fun v => rfl⟩
  | p :: r, k, i, h => by
    rw [fnd] at h
    by_cases e : p.1 = k
    · rw [if_pos e] at h; cases h
    · rw [if_neg e] at h
      have ih := fnd_none r k (i + 1) h
      refine ⟨?_, fun v => by rw [put, if_neg e, ih.2 v]; rfl⟩
      simp only [keys, List.map_cons, List.mem_cons, not_or]
      exact ⟨Ne.symm e, ih.1⟩
theorem fnd_some : ∀ (l : List (ByteArray × Value)) (k : ByteArray) (i j : Nat) (x : Value), fnd l k i = some (j, x) → ∃ n, j = i + n ∧ n < l.length ∧ l[n]? = some (k, x) ∧ ∀ v, put l k v = l.set n (k, v)
  | [], _, _, _, _, h => by cases h
  | p :: r, k, i, j, x, h => by
    rw [fnd] at h
    by_cases e : p.1 = k
    · rw [if_pos e] at h
      cases h
      subst e
      exact ⟨0, rfl, by simp, rfl, fun v => by simp [put]⟩
    · rw [if_neg e] at h
      obtain ⟨n, h1, h2, h3, h4⟩ := fnd_some r k (i + 1) j x h
      refine ⟨n + 1, by omega, by simpa using h2, by simpa using h3, fun v => by rw [put, if_neg e, h4 v]; rfl⟩

theorem findNow_eq (k : ByteArray) : ∀ (es : List MapEntry) (l : List (ByteArray × Value)) (i : Nat), es.map pairOf = l.map asPair → Instr.findNow .string (.string k) es i = some (fnd l k i)
  | [], [], _, _ => rfl
  | [], _ :: _, _, h => by cases h
  | _ :: _, [], _, h => by cases h
  | e :: es, p :: l, i, h => by
    simp only [List.map_cons, List.cons.injEq, pairOf, asPair, Prod.mk.injEq] at h
    obtain ⟨⟨h1, h2⟩, h3⟩ := h
    have ih := findNow_eq k es l (i + 1) h3
    rw [Instr.findNow, h1, fnd, h2]
    by_cases e : p.1 = k
    · have : (k == p.1) = true := (MapKept.bytes_beq _ _).2 e.symm
      simp only [Instr.sameNow, this, if_pos e]
    · have : (k == p.1) = false := by
        cases h : k == p.1
        · rfl
        · exact absurd ((MapKept.bytes_beq _ _).1 h).symm e
      simp only [Instr.sameNow, this, if_neg e]
      exact ih

section
variable {P : Program} {t kt e : TypeId}

theorem run_lookup {w : World} {b : Nat} {l : List (ByteArray × Value)} (h : Holds w b l) (ht : P.underlying t = some (.map kt e)) (hk : P.underlying kt = some .string) {z : Value} (hz : (zeroValue e).run P w = .ok z w) (k : ByteArray) (c : Bool) :
    (Instr.lookup t (.map (some b)) (.string k) c).run P w = .ok (if c then .tuple #[(get l k).getD z, .bool (get l k).isSome] else (get l k).getD z) w := by
  obtain ⟨es, clock, hb, _, he⟩ := h
  have hg := fnd_get l k 0
  have hn := findNow_eq k es.toList l 0 he
  cases hf : fnd l k 0 with
  | none =>
    rw [hf] at hg hn
    rw [← hg]
    simp only [Instr.lookup, Sem.run_bind, run_underlying ht, MapKept.run_getObj_map hb, Result.andThen, Sem.run_pure, MapKept.run_checkKey hk (show MapKept.IsKey .string (.string k) from trivial), MapKept.run_findKey hk hn, hz]
    cases c <;> simp
  | some p =>
    rw [hf] at hg hn
    rw [← hg]
    simp only [Instr.lookup, Sem.run_bind, run_underlying ht, MapKept.run_getObj_map hb, Result.andThen, Sem.run_pure, MapKept.run_checkKey hk (show MapKept.IsKey .string (.string k) from trivial), MapKept.run_findKey hk hn]
    cases c <;> simp
theorem run_lookup_nil {w : World} (ht : P.underlying t = some (.map kt e)) (hk : P.underlying kt = some .string) {z : Value} (hz : (zeroValue e).run P w = .ok z w) (k : ByteArray) (c : Bool) :
    (Instr.lookup t (.map none) (.string k) c).run P w = .ok (if c then .tuple #[z, .bool false] else z) w := by
  simp only [Instr.lookup, Sem.run_bind, run_underlying ht, Result.andThen, Sem.run_pure, MapKept.run_checkKey hk (show MapKept.IsKey .string (.string k) from trivial), MapKept.run_findKey (l := []) (k := .string k) hk rfl, hz]

theorem grown_set {w : World} {b : Nat} (o o' : Obj) (hb : w.heap[b]? = some o) : w.grownBy { w with heap := w.heap.setIfInBounds b o' } (some b) :=
  ⟨rfl, rfl, rfl, by simp, fun k _ hk => (MapKept.heap_set hb).2 k (fun e => hk (by rw [e]))⟩

theorem run_update {w : World} {b : Nat} {l : List (ByteArray × Value)} (h : Holds w b l) (ht : P.underlying t = some (.map kt e)) (hk : P.underlying kt = some .string) (k : ByteArray) (v : Value) :
    ∃ w', (Instr.mapUpdate t (.map (some b)) (.string k) v).run P w = .ok () w' ∧ Holds w' b (put l k v) ∧ w.grownBy w' (some b) := by
  have hkey : MapKept.IsKey .string (.string k) := trivial
  obtain ⟨es, clock, hb, hs, he⟩ := h
  have hn := findNow_eq k es.toList l 0 he
  cases hf : fnd l k 0 with
  | none =>
    rw [hf] at hn
    obtain ⟨h1, h2⟩ := fnd_none l k 0 hf
    refine ⟨_, by simp [Instr.mapUpdate, run_underlying ht, MapKept.run_getObj_map hb, MapKept.run_checkKey hk hkey, MapKept.run_findKey hk hn, MapKept.run_setObj_map _ hb, Result.andThen]; rfl, ⟨_, _, (MapKept.heap_set hb).1, MapKept.stamped_push hs ?_, ?_⟩, grown_set _ _ hb⟩
    · intro x hx e
      apply h1
      have hx' : pairOf x ∈ l.map asPair := by rw [← he]; exact List.mem_map.2 ⟨x, hx, rfl⟩
      obtain ⟨p, hp, hpx⟩ := List.mem_map.1 hx'
      simp only [pairOf, asPair, Prod.mk.injEq] at hpx
      rw [e] at hpx
      exact List.mem_map.2 ⟨p, hp, by simpa using hpx.1⟩
    · rw [h2 v]
      simp [he, pairOf, asPair]
  | some p =>
    obtain ⟨j, x⟩ := p
    rw [hf] at hn
    obtain ⟨n, h1, h2, h3, h4⟩ := fnd_some l k 0 j x hf
    rw [Nat.zero_add] at h1
    subst h1
    have hpair : (es.toList.map pairOf)[j]? = some (.string k, x) := by rw [he, List.getElem?_map, h3]; rfl
    obtain ⟨e0, he0, hp0⟩ : ∃ e0, es[j]? = some e0 ∧ pairOf e0 = (.string k, x) := by
      rw [List.getElem?_map] at hpair
      cases hq : es.toList[j]? with
      | none => rw [hq] at hpair; cases hpair
      | some e0 =>
        rw [hq] at hpair
        exact ⟨e0, by simpa using hq, by simpa using hpair⟩
    have hk0 : e0.key = .string k := congrArg Prod.fst hp0
    refine ⟨{ w with heap := w.heap.setIfInBounds b (.map (es.modify j fun e => { e with key := .string k, val := v }) clock) }, by simp [Instr.mapUpdate, run_underlying ht, MapKept.run_getObj_map hb, MapKept.run_checkKey hk hkey, MapKept.run_findKey hk hn, he0, hk0, MapKept.run_keyThatStays hkey, MapKept.run_setObj_map _ hb, Result.andThen], ⟨_, _, (MapKept.heap_set hb).1, MapKept.stamped_modify hs _ _ (fun _ _ => rfl) (fun e' _ he' => ?_), ?_⟩, grown_set _ _ hb⟩
    · rw [he0] at he'; cases he'; exact hk0.symm
    · rw [h4 v]
      apply List.ext_getElem?
      intro i
      have hi : (es.toList.map pairOf)[i]? = (l.map asPair)[i]? := by rw [he]
      simp only [List.getElem?_map, Array.getElem?_toList, Array.getElem?_modify, List.getElem?_set] at hi ⊢
      by_cases hij : j = i
      · subst hij
        simp [he0, h2, pairOf, asPair]
      · simp only [hij, if_false]
        exact hi
theorem run_len {w : World} {b : Nat} {l : List (ByteArray × Value)} (h : Holds w b l) (ht : P.underlying t = some (.map kt e)) (ty : TypeId) : (Builtin.len_ #[t] ty #[.map (some b)]).run P w = .ok (.int .i64 l.length) w := by
  obtain ⟨es, clock, hb, _, he⟩ := h
  have hl : es.size = l.length := by
    have := congrArg List.length he
    simpa using this
  simp [Builtin.len_, run_underlying ht, MapKept.run_getObj_map hb, goInt, hl]
theorem run_len_nil {w : World} (ht : P.underlying t = some (.map kt e)) (ty : TypeId) : (Builtin.len_ #[t] ty #[.map none]).run P w = .ok (.int .i64 0) w := by
  simp [Builtin.len_, run_underlying ht, goInt]

/-- 'm[k] = v' at the operation, for the walk. -/
theorem wpList_upd {ops : Array Oper} {rest : List Oper} {o : Oper} {a : Act} {Q : Exit → Act → World → Prop} {w : World} (hg : o.guard = none) (m x v : Operand) (hop : o.op = Op.mapUpdate t m x v)
    (ht : P.underlying t = some (.map kt e)) (hk : P.underlying kt = some .string) (b : Nat) (l : List (ByteArray × Value)) (k : ByteArray) (val : Value) (hm : a.eval m = .map (some b)) (hx : a.eval x = .string k) (hv : a.eval v = val) (hH : Holds w b l)
    (h : ∀ w', Holds w' b (put l k val) → w.grownBy w' (some b) → wpList P ops Q rest (a.put o.dst undef) w') : wpList P ops Q (o :: rest) a w := by
  refine wpList_plain hg fun K' hK' => ?_
  obtain ⟨w', hrun, r1, r2⟩ := run_update hH ht hk k val
  unfold Oper.wp
  simp [execOp, hop, hm, hx, hv, hrun, Result.andThen]
  exact hK' _ _ (h w' r1 r2)
/-- The same at a step of a region that draws its order. -/
theorem step_upd {ops : Array Oper} {o : Oper} {a : Act} {K : Act → World → Prop} {Q : Exit → Act → World → Prop} {E : Prop} {w : World} (hg : o.guard = none) (m x v : Operand) (hop : o.op = Op.mapUpdate t m x v)
    (ht : P.underlying t = some (.map kt e)) (hk : P.underlying kt = some .string) (b : Nat) (l : List (ByteArray × Value)) (k : ByteArray) (val : Value) (hm : a.eval m = .map (some b)) (hx : a.eval x = .string k) (hv : a.eval v = val) (hH : Holds w b l)
    (h : ∀ w', Holds w' b (put l k val) → w.grownBy w' (some b) → K (a.put o.dst undef) w') : if Region.wanted o (yielded ops a.tmps) = true then Oper.wp P o a w K Q else E := by
  have hw : Region.wanted o (yielded ops a.tmps) = true := by simp [Region.wanted, hg]
  rw [if_pos hw]
  obtain ⟨w', hrun, r1, r2⟩ := run_update hH ht hk k val
  unfold Oper.wp
  simp [execOp, hop, hm, hx, hv, hrun, Result.andThen]
  exact h w' r1 r2

/-! ### A range over the map -/
/-- The iterator in block r goes over the map in block b, which holds l; it has handed out 'done'. -/
def Ranging (w : World) (r b : Nat) (l done : List (ByteArray × Value)) : Prop :=
  ∃ es clock since seen c0, ∃ ds : List MapEntry, w.heap[b]? = some (.map es clock) ∧ MapKept.Stamped es clock ∧ es.toList.map pairOf = l.map asPair ∧ w.heap[r]? = some (.mapIter (some b) since seen c0) ∧
    (∀ x ∈ es.toList, x.born < since) ∧ since ≤ c0 ∧ since ≤ clock ∧ (∀ d ∈ ds, d ∈ es.toList) ∧ (ds.map (·.born)).Nodup ∧ (∀ n, seen.contains n = true ↔ n ∈ ds.map (·.born)) ∧ ds.map pairOf = done.map asPair

theorem asPair_inj {a b : List (ByteArray × Value)} (h : a.map asPair = b.map asPair) : a = b := by
  induction a generalizing b with
  | nil => cases b with
    | nil => rfl
    | cons _ _ => cases h
  | cons x r ih => cases b with
    | nil => cases h
    | cons y s =>
      simp only [List.map_cons, List.cons.injEq, asPair, Prod.mk.injEq, Value.string.injEq] at h
      rw [ih h.2]
      obtain ⟨⟨h1, h2⟩, _⟩ := h
      cases x; cases y
      simp_all

theorem Ranging.start {w : World} {b : Nat} {l : List (ByteArray × Value)} (h : Holds w b l) (ht : P.underlying t = some (.map kt e)) :
    ∃ w', (Instr.range t (.map (some b))).run P w = .ok (.pointer (some ⟨w.heap.size, 0, none⟩)) w' ∧ Ranging w' w.heap.size b l [] ∧ ∃ o, w' = w.alloc o := by
  have hlt := h.lt
  obtain ⟨es, clock, hb, hs, he⟩ := h
  refine ⟨_, run_range_map w t kt e b es clock ht hb, ⟨es, clock, clock, #[], clock, [], ?_, hs, he, heap_alloc_new w _, hs.1, Nat.le_refl _, Nat.le_refl _, by simp, by simp, by simp, rfl⟩, _, rfl⟩
  rw [heap_alloc_old w _ hlt, hb]

theorem Ranging.same {w w' : World} {r b : Nat} {l done : List (ByteArray × Value)} (h : Ranging w r b l done) (hb : w'.heap[b]? = w.heap[b]?) (hr : w'.heap[r]? = w.heap[r]?) : Ranging w' r b l done := by
  obtain ⟨es, clock, since, seen, c0, ds, h1, h2, h3, h4, h5⟩ := h
  exact ⟨es, clock, since, seen, c0, ds, hb.trans h1, h2, h3, hr.trans h4, h5⟩
theorem Ranging.holds {w : World} {r b : Nat} {l done : List (ByteArray × Value)} (h : Ranging w r b l done) : Holds w b l := by
  obtain ⟨es, clock, since, seen, c0, ds, h1, h2, h3, _⟩ := h
  exact ⟨es, clock, h1, h2, h3⟩
theorem Ranging.lt {w : World} {r b : Nat} {l done : List (ByteArray × Value)} (h : Ranging w r b l done) : r < w.heap.size := by
  obtain ⟨es, clock, since, seen, c0, ds, _, _, _, h4, _⟩ := h
  rcases Nat.lt_or_ge r w.heap.size with h | h
  · exact h
  · rw [Array.getElem?_eq_none h] at h4; cases h4
theorem Ranging.ne {w : World} {r b : Nat} {l done : List (ByteArray × Value)} (h : Ranging w r b l done) : r ≠ b := by
  obtain ⟨es, clock, since, seen, c0, ds, h1, _, _, h4, _⟩ := h
  rintro rfl
  rw [h1] at h4
  cases h4

theorem nodup_of_born {l : List MapEntry} (h : (l.map (·.born)).Nodup) : l.Nodup := (List.pairwise_map.1 h).imp fun h e => h (by rw [e])
theorem Ranging.len {w : World} {r b : Nat} {l done : List (ByteArray × Value)} (h : Ranging w r b l done) : done.length ≤ l.length := by
  obtain ⟨es, clock, since, seen, c0, ds, hb, hs, he, hr, hold, hsc, hsk, hds, hnd, hseen, hdone⟩ := h
  have h1 : ds.Perm (es.toList.filter fun x => decide (x.born ∈ ds.map (·.born))) := by
    refine (List.perm_ext_iff_of_nodup (nodup_of_born hnd) ((nodup_of_born hs.2.1).sublist List.filter_sublist)).2 fun x => ?_
    rw [List.mem_filter]
    constructor
    · intro hx
      exact ⟨hds x hx, by simpa using ⟨x, hx, rfl⟩⟩
    · rintro ⟨hx, hb⟩
      obtain ⟨d, hd, e⟩ := List.mem_map.1 (of_decide_eq_true hb)
      rwa [← born_inj hs.2.1 (hds d hd) hx e]
  have h2 := h1.length_eq
  have h3 := List.length_filter_le (fun x : MapEntry => decide (x.born ∈ ds.map (·.born))) es.toList
  have h4 := congrArg List.length hdone
  have h5 := congrArg List.length he
  simp only [List.length_map] at h4 h5
  omega
theorem choose_run (w : World) (n : Nat) (hn : 0 < n) : ∃ j w1, j < n ∧ w1.heap = w.heap ∧ w.grownBy w1 none ∧ (choose (Question.mapNext n)).run P w = .ok j w1 := by
  by_cases hf : n ≤ 1
  · exact ⟨0, w, hn, rfl, ⟨rfl, rfl, rfl, Nat.le_refl _, fun _ _ _ => rfl⟩, by simp [choose, Sem.run, Question.forced, hf]⟩
  · exact ⟨_, w.drew, Nat.mod_lt _ hn, rfl, ⟨rfl, rfl, rfl, Nat.le_refl _, fun _ _ _ => rfl⟩, by
      simp only [choose, Sem.run, Question.forced, decide_eq_true_eq, hf, if_false, Question.cut]
      rfl⟩

theorem Ranging.next {w : World} {r b : Nat} {l done : List (ByteArray × Value)} (h : Ranging w r b l done) :
    (done.Perm l ∧ ∀ ty, (Instr.next (.pointer (some ⟨r, 0, none⟩)) false ty).run P w = .ok (.tuple #[.bool false]) w) ∨
    ∃ p w', p ∈ l ∧ p.1 ∉ keys done ∧ w.grownBy w' (some r) ∧ Ranging w' r b l (done ++ [p]) ∧ (∀ ty, (Instr.next (.pointer (some ⟨r, 0, none⟩)) false ty).run P w = .ok (.tuple #[.bool true, .string p.1, p.2]) w') ∧
      (Instr.entry (.pointer (some ⟨r, 0, none⟩))).run P w' = .ok (.tuple #[.string p.1, p.2]) w' := by
  have hne := h.ne
  obtain ⟨es, clock, since, seen, c0, ds, hb, hs, he, hr, hold, hsc, hsk, hds, hnd, hseen, hdone⟩ := h
  have hleft : ∀ x, x ∈ (leftOf es seen).toList ↔ x ∈ es.toList ∧ x.born ∉ ds.map (·.born) := by
    intro x
    unfold leftOf
    rw [Array.toList_filter, List.mem_filter]
    refine and_congr_right fun _ => ?_
    rw [← hseen x.born]
    cases seen.contains x.born <;> simp
  have hmem : ∀ x ∈ (leftOf es seen).toList, x.born < since := fun x hx => hold x ((hleft x).1 hx).1
  have hset : ∀ (w1 : World) (o : Obj), w1.heap = w.heap → (setObj r o).run P w1 = .ok () { w1 with heap := w1.heap.setIfInBounds r o } := fun w1 o h1 => by
    have : w1.heap[r]? = some (.mapIter (some b) since seen c0) := by rw [h1, hr]
    simp [setObj, Sem.run, this]
  by_cases h0 : (leftOf es seen).size = 0
  · left
    refine ⟨?_, fun ty => ?_⟩
    · -- all have been handed out
      have hall : ∀ x ∈ es.toList, x ∈ ds := fun x hx => by
        have h1 := (hseen x.born).1 (all_seen es seen h0 x hx)
        obtain ⟨d, hd, e⟩ := List.mem_map.1 h1
        rwa [born_inj hs.2.1 hx (hds d hd) e.symm]
      have hperm : ds.Perm es.toList := (List.perm_ext_iff_of_nodup (nodup_of_born hnd) (nodup_of_born hs.2.1)).2 fun x => ⟨hds x, hall x⟩
      have := hperm.map pairOf
      rw [hdone, he] at this
      have hp := this.map (fun q : Value × Value => ((match q.1 with | .string k => k | _ => ByteArray.empty), q.2))
      simpa [List.map_map, Function.comp_def, asPair] using hp
    · have hL : leftOf es seen = #[] := Array.eq_empty_of_size_eq_zero h0
      simp only [Instr.next, getObj, Sem.run_bind, Sem.run, hr, hb, Result.andThen, next_test_false seen es since c0 hold hsc, Bool.false_eq_true, if_false]
      unfold leftOf at hL
      rw [hL]
      simp [choose, Sem.run, Question.forced]
  · right
    obtain ⟨j, w1, hj, hw1, hg1, hch⟩ := choose_run (P := P) w (leftOf es seen).size (by omega)
    have hin := (hleft (leftOf es seen)[j]).1 (by simp)
    have hin2 : pairOf (leftOf es seen)[j] ∈ l.map asPair := by rw [← he]; exact List.mem_map.2 ⟨_, hin.1, rfl⟩
    obtain ⟨p, hp, hpe⟩ := List.mem_map.1 hin2
    have hkey : (leftOf es seen)[j].key = .string p.1 := (congrArg Prod.fst hpe).symm
    have hval : (leftOf es seen)[j].val = p.2 := (congrArg Prod.snd hpe).symm
    have hr1 : w1.heap[r]? = some (.mapIter (some b) since seen c0) := by rw [hw1, hr]
    have hb1 : w1.heap[b]? = some (.map es clock) := by rw [hw1, hb]
    have hH := MapKept.heap_set (o' := .mapIter (some b) since (seen.push (leftOf es seen)[j].born) clock) hr1
    refine ⟨p, { w1 with heap := w1.heap.setIfInBounds r (.mapIter (some b) since (seen.push (leftOf es seen)[j].born) clock) }, hp, ?_, ?_, ?_, fun ty => ?_, ?_⟩
    · intro hk
      obtain ⟨q, hq, hqk⟩ := List.mem_map.1 hk
      have hq2 : asPair q ∈ ds.map pairOf := by rw [hdone]; exact List.mem_map.2 ⟨q, hq, rfl⟩
      obtain ⟨d, hd, hde⟩ := List.mem_map.1 hq2
      apply hin.2
      refine List.mem_map.2 ⟨d, hd, ?_⟩
      have hdk : d.key = (leftOf es seen)[j].key := by
        rw [hkey, ← hqk]
        exact congrArg Prod.fst hde
      have h3 := hs.2.2
      have : d = (leftOf es seen)[j] := by
        have hpw := List.pairwise_map.1 h3
        exact entry_eq_of_key (hpw.imp fun h => h) (hds d hd) hin.1 hdk
      rw [this]
    · refine ⟨hg1.os, hg1.tape, hg1.output, by simp [hw1], fun k _ hk => ?_⟩
      show (w1.heap.setIfInBounds r _)[k]? = _
      rw [hH.2 k (fun e => hk (by rw [e])), hw1]
    · refine ⟨es, clock, since, seen.push (leftOf es seen)[j].born, clock, ds ++ [(leftOf es seen)[j]], ?_, hs, he, hH.1, hold, hsk, hsk, ?_, ?_, ?_, ?_⟩
      · show (w1.heap.setIfInBounds r _)[b]? = _
        rw [hH.2 b (Ne.symm hne), hb1]
      · intro d hd
        rcases List.mem_append.1 hd with h | h
        · exact hds d h
        · rw [List.mem_singleton.1 h]; exact hin.1
      · rw [List.map_append]
        refine List.nodup_append.2 ⟨hnd, by simp, ?_⟩
        intro a ha b' hb' e
        simp only [List.map_cons, List.map_nil, List.mem_singleton] at hb'
        subst hb'
        subst e
        exact hin.2 ha
      · intro n
        rw [contains_push, Bool.or_eq_true, hseen n, beq_iff_eq]
        simp
      · rw [List.map_append, List.map_append, hdone]
        simp [hpe]
    · simp only [Instr.next, getObj, Sem.run_bind, Sem.run, hr, hb, Result.andThen, next_test_false seen es since c0 hold hsc, Bool.false_eq_true, if_false]
      have e0 : (Array.filter (fun e => !seen.contains e.born) es) = leftOf es seen := rfl
      rw [e0]
      have e1 : (leftOf es seen).filter (fun x => decide (x.born < since)) = leftOf es seen := Array.filter_eq_self.2 (fun x hx => by simpa using hmem x (by simpa using hx))
      have e2 : (leftOf es seen).filter (fun x => decide (x.born ≥ since)) = #[] := by
        rw [Array.filter_eq_empty_iff]
        intro x hx
        have := hmem x (by simpa using hx)
        simp
        omega
      have hne0 : (leftOf es seen).isEmpty = false := by simp [Array.isEmpty, h0]
      simp only [e1, e2, Array.append_empty, hne0, Bool.false_eq_true, if_false, Array.empty_append, Array.size_map, hch, Array.getElem?_map, Array.getElem?_eq_getElem hj, Option.map_some, Sem.run_bind, hset w1 _ hw1, Result.andThen]
      rw [hkey, hval]
      rfl
    · have hf : es.find? (·.born == (leftOf es seen)[j].born) = some (leftOf es seen)[j] := by rw [← Array.find?_toList]; exact find_born _ es.toList hs.2.1 hin.1
      have hb2 : (w1.heap.setIfInBounds r (Obj.mapIter (some b) since (seen.push (leftOf es seen)[j].born) clock))[b]? = some (.map es clock) := by rw [hH.2 b (Ne.symm hne), hb1]
      simp only [Instr.entry, getObj, Sem.run_bind, Sem.run, hH.1, hb2, Result.andThen, Array.back?_push, bne_self_eq_false, Bool.false_eq_true, if_false, hf]
      rw [hkey, hval]
      rfl
end
theorem Holds.setCell {w : World} {b : Nat} {l : List (ByteArray × Value)} (h : Holds w b l) {p : Addr} (hp : b ≠ p.block) (u : Value) : Holds (w.setCell p u) b l := h.same (Below.heap_setCell w p u b hp)
theorem Ranging.alloc {w : World} {r b : Nat} {l done : List (ByteArray × Value)} (h : Ranging w r b l done) (o : Obj) : Ranging (w.alloc o) r b l done :=
  h.same (Below.heap_alloc w o b h.holds.lt) (Below.heap_alloc w o r h.lt)
theorem Ranging.kept {w w' : World} {row : Option Nat} {r b : Nat} {l done : List (ByteArray × Value)} (h : Ranging w r b l done) (hg : w.grownBy w' row) (hb : some b ≠ row) (hr : some r ≠ row) : Ranging w' r b l done :=
  h.same (hg.block b h.holds.lt hb) (hg.block r h.lt hr)
end Go.Proofs.Ybulkehgi.SM
