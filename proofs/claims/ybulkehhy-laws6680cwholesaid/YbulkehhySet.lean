import Derived.Test.YbulkehhyFinal
import Derived.Deep.RegionLaw
namespace Go.Proofs.Ybulkehhy.Walks
open Go.RowKit Plain SM

theorem hid {p : Prop} (h : p) : Hid p := h
abbrev Inner := Nat × List (ByteArray × Value)
def outer (S : List (ByteArray × Inner)) : List (ByteArray × Value) := S.map fun p => (p.1, .map (some p.2.1))
def cont (S : List (ByteArray × Inner)) (k : ByteArray) : List (ByteArray × Value) := match get S k with | some q => q.2 | none => []
/-- The acceptor in block a: its map of maps in block bo holds S. -/
structure State (w : World) (base a bo : Nat) (S : List (ByteArray × Inner)) : Prop where
  cell : w.cell? ⟨a, 1, none⟩ = some (.map (some bo))
  lo : base ≤ a ∧ base ≤ bo
  out : Holds w bo (outer S)
  ins : ∀ p ∈ S, Holds w p.2.1 p.2.2 ∧ p.2.1 ≠ bo ∧ base ≤ p.2.1
  dist : (S.map (·.2.1)).Nodup

theorem keys_outer (S : List (ByteArray × Inner)) : keys (outer S) = keys S := by simp [keys, outer, List.map_map, Function.comp_def]
theorem get_outer : ∀ (S : List (ByteArray × Inner)) (k : ByteArray), get (outer S) k = (get S k).map fun q => .map (some q.1)
  | [], _ => rfl
  | p :: r, k => by
    show get ((p.1, .map (some p.2.1)) :: outer r) k = _
    rw [SM.get, SM.get]
    by_cases e : p.1 = k
    · simp [e]
    · rw [if_neg e, if_neg e]; exact get_outer r k
theorem outer_put_old {S : List (ByteArray × Inner)} {k : ByteArray} {b : Nat} {l x : List (ByteArray × Value)} (h : get S k = some (b, l)) : outer (put S k (b, x)) = outer S := by
  induction S with
  | nil => cases h
  | cons p r ih =>
    rw [SM.get] at h
    rw [put]
    by_cases e : p.1 = k
    · rw [if_pos e] at h
      have h' : p.2 = (b, l) := Option.some.inj h
      simp [outer, e, h']
    · rw [if_neg e] at h
      rw [if_neg e]
      simp only [outer, List.map_cons] at ih ⊢
      rw [ih h]
theorem outer_put {S : List (ByteArray × Inner)} {k : ByteArray} {b : Nat} {x : List (ByteArray × Value)} : outer (put S k (b, x)) = put (outer S) k (.map (some b)) := by
  induction S with
  | nil => simp [outer, put]
  | cons p r ih =>
    rw [put]
    by_cases e : p.1 = k
    · simp [outer, e, put]
    · rw [if_neg e]
      simp only [outer, List.map_cons, put] at ih ⊢
      rw [if_neg e, ih]
theorem mem_put {α : Type} {S : List (ByteArray × α)} {k : ByteArray} {v : α} (hn : (keys S).Nodup) {p : ByteArray × α} (h : p ∈ put S k v) : p = (k, v) ∨ (p ∈ S ∧ p.1 ≠ k) := by
  have := (put_perm k v hn).mem_iff.1 h
  rcases List.mem_append.1 this with h | h
  · rw [List.mem_filter] at h
    exact .inr ⟨h.1, by simpa using h.2⟩
  · exact .inl (List.mem_singleton.1 h)
theorem blocks_put_old {S : List (ByteArray × Inner)} {k : ByteArray} {b : Nat} {l x : List (ByteArray × Value)} (h : get S k = some (b, l)) : (put S k (b, x)).map (·.2.1) = S.map (·.2.1) := by
  have := congrArg (List.map fun p : ByteArray × Value => match p.2 with | .map (some b) => b | _ => 0) (outer_put_old (x := x) h)
  simpa [outer, List.map_map, Function.comp_def] using this
theorem blocks_put_new {S : List (ByteArray × Inner)} {k : ByteArray} {q : Inner} (h : get S k = none) : put S k q = S ++ [(k, q)] := by
  refine put_new k q fun hk => ?_
  obtain ⟨v, hv⟩ := get_some_of_key hk
  rw [h] at hv; cases hv
theorem State.nodup {w : World} {base a bo : Nat} {S : List (ByteArray × Inner)} (h : State w base a bo S) : (keys S).Nodup := by rw [← keys_outer]; exact h.out.nodup
theorem State.same {w w' : World} {base a bo : Nat} {S : List (ByteArray × Inner)} (h : State w base a bo S) (hb : ∀ k, k < w.heap.size → w'.heap[k]? = w.heap[k]?) : State w' base a bo S where
  cell := (World.cell?_of_block (w := w) (hb a (World.block_lt_of_cell? w _ h.cell))).trans h.cell
  lo := h.lo
  out := h.out.same (hb _ h.out.lt)
  ins := fun p hp => ⟨(h.ins p hp).1.same (hb _ (h.ins p hp).1.lt), (h.ins p hp).2⟩
  dist := h.dist

theorem State.lookup {w w' : World} {base a bo : Nat} {S : List (ByteArray × Inner)} (h : State w base a bo S) (hw : w'.heap[bo]? = w.heap[bo]?) (k : ByteArray) :
    (Instr.lookup 46 (.map (some bo)) (.string k) false).run Yba.prog w' = .ok (match get S k with | some q => .map (some q.1) | none => .map none) w' := by
  have := run_lookup (P := Yba.prog) (h.out.same hw) (t := 46) Yba.underlying46 Yba.underlying9 (z := .map none) (by kernel_rfl) k false
  rw [this, get_outer]
  cases get S k <;> rfl

/-- Blocks that are no maps stay as they were. -/
def Keeps (w w' : World) : Prop := w.heap.size ≤ w'.heap.size ∧ ∀ k, k < w.heap.size → (∀ es c, w.heap[k]? ≠ some (.map es c)) → w'.heap[k]? = w.heap[k]?
theorem Keeps.refl (w : World) : Keeps w w := ⟨Nat.le_refl _, fun _ _ _ => rfl⟩
theorem Keeps.trans {a b c : World} (h : Keeps a b) (h' : Keeps b c) : Keeps a c :=
  ⟨Nat.le_trans h.1 h'.1, fun k hk hn => (h'.2 k (Nat.lt_of_lt_of_le hk h.1) (by rw [h.2 k hk hn]; exact hn)).trans (h.2 k hk hn)⟩
theorem Keeps.of_same {w w' : World} (hs : w.heap.size ≤ w'.heap.size) (h : ∀ k, k < w.heap.size → w'.heap[k]? = w.heap[k]?) : Keeps w w' := ⟨hs, fun k hk _ => h k hk⟩
theorem Keeps.map {w w' : World} {b : Nat} {l : List (ByteArray × Value)} (hH : Holds w b l) (hg : w.grownBy w' (some b)) : Keeps w w' := by
  refine ⟨hg.size, fun k hk hn => hg.block k hk fun e => ?_⟩
  obtain ⟨es, c, hb, _⟩ := hH
  cases e
  exact hn es c hb
theorem Keeps.cell {w w' : World} (h : Keeps w w') {a : Addr} {v : Value} (hc : w.cell? a = some v) : w'.cell? a = some v := by
  have hlt := World.block_lt_of_cell? w _ hc
  rw [World.cell?_of_block (w := w) (h.2 a.block hlt fun es c hm => ?_), hc]
  unfold World.cell? at hc
  rw [hm] at hc
  simp at hc
theorem same2 (w : World) (o1 o2 : Obj) (n : Nat) (k : Nat) (hk : k < w.heap.size) : (((w.alloc o1).alloc o2).drewN n).heap[k]? = w.heap[k]? := by
  show ((w.alloc o1).alloc o2).heap[k]? = _
  rw [Below.heap_alloc _ _ _ (by simp; omega), Below.heap_alloc _ _ _ hk]

theorem nodup_inj {α β : Type} (f : α → β) : ∀ {l : List α}, (l.map f).Nodup → ∀ {x y : α}, x ∈ l → y ∈ l → f x = f y → x = y
  | [], _, _, _, hx, _, _ => by cases hx
  | z :: r, hn, x, y, hx, hy, e => by
    simp only [List.map_cons, List.nodup_cons] at hn
    rcases List.mem_cons.1 hx with rfl | hx
    · rcases List.mem_cons.1 hy with rfl | hy
      · rfl
      · exact absurd (List.mem_map.2 ⟨y, hy, e.symm⟩) hn.1
    · rcases List.mem_cons.1 hy with hy | hy
      · exact absurd (List.mem_map.2 ⟨x, hx, by rw [e, hy]⟩) hn.1
      · exact nodup_inj f hn.2 hx hy e

theorem State.old {w w1 w' : World} {base a bo bi : Nat} {S : List (ByteArray × Inner)} {txn : ByteArray} {li x : List (ByteArray × Value)} (h : State w base a bo S) (hg : get S txn = some (bi, li))
    (h1 : ∀ k, k < w.heap.size → w1.heap[k]? = w.heap[k]?) (hH : Holds w' bi x) (hgr : w1.grownBy w' (some bi)) : State w' base a bo (put S txn (bi, x)) := by
  have hs1 := h.same h1
  have hmem := get_mem hg
  have hne : bo ≠ bi := fun e => (h.ins _ hmem).2.1 e.symm
  have hL := (hs1.ins _ hmem).1
  refine ⟨(Keeps.map hL hgr).cell hs1.cell, h.lo, ?_, fun p hp => ?_, ?_⟩
  · rw [outer_put_old hg]
    exact hs1.out.kept hgr (by simpa using hne)
  · rcases mem_put h.nodup hp with rfl | ⟨hp, hk⟩
    · exact ⟨hH, (h.ins _ hmem).2⟩
    · have hb : p.2.1 ≠ bi := by
        intro e
        have hd := h.dist
        have : p = (txn, (bi, li)) := nodup_inj (fun x : ByteArray × Inner => x.2.1) hd hp hmem e
        exact hk (by rw [this])
      exact ⟨(hs1.ins p hp).1.kept hgr (by simpa using hb), (h.ins p hp).2⟩
  · rw [blocks_put_old hg]
    exact h.dist

theorem State.new {w w1 w2 w' : World} {base a bo bi : Nat} {S : List (ByteArray × Inner)} {txn : ByteArray} {x : List (ByteArray × Value)} (h : State w base a bo S) (hg : get S txn = none)
    (h1 : ∀ k, k < w.heap.size → w1.heap[k]? = w.heap[k]?) (hbi : w.heap.size ≤ bi) (hbase : base ≤ w.heap.size) (hO : Holds w2 bo (put (outer S) txn (.map (some bi)))) (hg2 : w1.grownBy w2 (some bo)) (hE : Holds w2 bi []) (hH : Holds w' bi x) (hgr : w2.grownBy w' (some bi)) : State w' base a bo (put S txn (bi, x)) := by
  have hs1 := h.same h1
  have hbo := h.out.lt
  have hne : bo ≠ bi := by omega
  refine ⟨(Keeps.map hE hgr).cell ((Keeps.map hs1.out hg2).cell hs1.cell), h.lo, ?_, fun p hp => ?_, ?_⟩
  · rw [outer_put]
    exact hO.kept hgr (by simpa using hne)
  · rcases mem_put h.nodup hp with rfl | ⟨hp, hk⟩
    · exact ⟨hH, Ne.symm hne, by show base ≤ bi; omega⟩
    · have hi := h.ins p hp
      have hlt := hi.1.lt
      have hb : p.2.1 ≠ bi := by omega
      exact ⟨((hs1.ins p hp).1.kept hg2 (by simpa using hi.2.1)).kept hgr (by simpa using hb), hi.2⟩
  · rw [blocks_put_new hg, List.map_append]
    refine List.nodup_append.2 ⟨h.dist, by simp, ?_⟩
    intro n hn m hm
    simp only [List.map_cons, List.map_nil, List.mem_singleton] at hm
    subst hm
    obtain ⟨p, hp, rfl⟩ := List.mem_map.1 hn
    have := (h.ins p hp).1.lt
    omega

theorem below_map {w w' : World} {base b : Nat} (hg : w.grownBy w' (some b)) (hB : base ≤ w.heap.size) (hb : base ≤ b) : Below base w w' := (Below.refl _ _).grown hg hB fun k hk => by cases hk; exact hb

set_option maxHeartbeats 400000 in
theorem set_old (base a bo : Nat) (S : List (ByteArray × Inner)) (txn part : ByteArray) (e : Ent) (bi : Nat) (li : List (ByteArray × Value)) (w : World) (h : State w base a bo S) (hg : get S txn = some (bi, li)) (hbase : base ≤ w.heap.size) :
    Calls Yba.prog 8 #[.pointer (some ⟨a, 0, none⟩), .agg #[.string txn, .string part], agg e] w fun e' w' => e' = .returned (.tuple #[]) ∧ State w' base a bo (put S txn (bi, put li part (agg e))) ∧ Below base w w' ∧ Keeps w w' := by
  have ca := h.cell
  have ha := World.block_lt_of_cell? w _ ca
  have hob := h.out.lt
  have hin := h.ins _ (get_mem hg)
  have hl : ∀ (o1 o2 : Obj) n, (Instr.lookup 46 (.map (some bo)) (.string txn) false).run Yba.prog (((w.alloc o1).alloc o2).drewN n) = .ok (.map (some bi)) (((w.alloc o1).alloc o2).drewN n) := fun o1 o2 n => by
    have := h.lookup (w' := ((w.alloc o1).alloc o2).drewN n) (same2 w o1 o2 n bo hob) txn
    rw [this, hg]
  have hmn := fun w r => run_eql_map_nil (P := Yba.prog) w 45 _ _ r Yba.underlying45
  have Hh : Hid (State w base a bo S) := h
  have Hg : Hid (get S txn = some (bi, li)) := hg
  have Hin : Hid (Holds w bi li) := hin.1
  have hbi : base ≤ bi := hin.2.2
  clear h hg hin
  unfold agg
  go_enter Yba.func8, Yba.ntmps8
  go_wp2
  go_quiet (fail)
  go_wp2_with (at_mapUpdate; refine wpList_upd rfl _ _ _ rfl Yba.underlying45 Yba.underlying9 bi li part (agg e) rfl rfl rfl ?_ ?_)
  · exact Hin.out.same (same2 w _ _ _ _ Hin.out.lt)
  intro w' hH hgr
  go_wp2
  go_end0
  refine ⟨rfl, Hh.out.old Hg.out (same2 w _ _ _) hH hgr, ?_, ?_⟩
  · exact (below_drewN (((Below.refl _ w).alloc hbase _).alloc (by simp; omega) _) _).trans (below_map hgr (by simp; omega) hbi)
  · exact (Keeps.of_same (by simp; omega) (same2 w _ _ _)).trans (Keeps.map (Hin.out.same (same2 w _ _ _ _ Hin.out.lt)) hgr)

set_option maxHeartbeats 400000 in
theorem set_new (base a bo : Nat) (S : List (ByteArray × Inner)) (txn part : ByteArray) (e : Ent) (w : World) (h : State w base a bo S) (hg : get S txn = none) (hbase : base ≤ w.heap.size) :
    Calls Yba.prog 8 #[.pointer (some ⟨a, 0, none⟩), .agg #[.string txn, .string part], agg e] w fun e' w' => e' = .returned (.tuple #[]) ∧ (∃ bi, State w' base a bo (put S txn (bi, put [] part (agg e)))) ∧ Below base w w' ∧ Keeps w w' := by
  have ca := h.cell
  have ha := World.block_lt_of_cell? w _ ca
  have hob := h.out.lt
  have hl : ∀ (o1 o2 : Obj) n, (Instr.lookup 46 (.map (some bo)) (.string txn) false).run Yba.prog (((w.alloc o1).alloc o2).drewN n) = .ok (.map none) (((w.alloc o1).alloc o2).drewN n) := fun o1 o2 n => by
    have := h.lookup (w' := ((w.alloc o1).alloc o2).drewN n) (same2 w o1 o2 n bo hob) txn
    rw [this, hg]
  have hmn := fun w r => run_eql_map_nil (P := Yba.prog) w 45 _ _ r Yba.underlying45
  have hmm := @run_makeMap Yba.prog
  have Hh : Hid (State w base a bo S) := h
  have Hg : Hid (get S txn = none) := hg
  clear h hg
  unfold agg
  go_enter Yba.func8, Yba.ntmps8
  go_wp2
  go_quiet (fail)
  go_wp2
  have h3 : ∀ k, k < w.heap.size → (((((w.alloc (.cells #[.string txn, .string part] 28)).alloc (.cells #[.int .u64 e.pr, .int .u64 e.ac, .string e.val] 32)).drewN nq).alloc (.map #[] 0)).drew).heap[k]? = w.heap[k]? := fun k hk => by
    show ((((w.alloc _).alloc _).drewN nq).alloc _).heap[k]? = _
    rw [Below.heap_alloc _ _ _ (by simp; omega)]
    exact same2 w _ _ _ k hk
  have HO1 : Hid (Holds (((((w.alloc (.cells #[.string txn, .string part] 28)).alloc (.cells #[.int .u64 e.pr, .int .u64 e.ac, .string e.val] 32)).drewN nq).alloc (.map #[] 0)).drew) bo (outer S)) := Hh.out.out.same (h3 _ hob)
  obtain ⟨w2, hrun2, hO, hg2⟩ := run_update (P := Yba.prog) (t := 46) HO1.out Yba.underlying46 Yba.underlying9 txn (.map (some (w.heap.size + 1 + 1)))
  have HE1 : Hid (Holds w2 (w.heap.size + 1 + 1) []) := by
    have hm0 := Holds.made (((w.alloc (.cells #[.string txn, .string part] 28)).alloc (.cells #[.int .u64 e.pr, .int .u64 e.ac, .string e.val] 32)).drewN nq)
    simp only [World.heap_drewN, World.size_alloc] at hm0
    exact Holds.kept (w := (((((w.alloc (.cells #[.string txn, .string part] 28)).alloc (.cells #[.int .u64 e.pr, .int .u64 e.ac, .string e.val] 32)).drewN nq).alloc (.map #[] 0)).drew)) (hm0.same rfl) hg2 (by simp; omega)
  have HG2 := hid hg2
  have HO := hid hO
  have H3 := hid h3
  have k1 : w2.cell? ⟨w.heap.size, 1, none⟩ = some (.string part) := (Keeps.map HO1.out hg2).cell (by simp [go_sem])
  have k2 : w2.cell? ⟨w.heap.size + 1, 0, none⟩ = some (.int .u64 e.pr) := (Keeps.map HO1.out hg2).cell (by simp [go_sem])
  have k3 : w2.cell? ⟨w.heap.size + 1, 1, none⟩ = some (.int .u64 e.ac) := (Keeps.map HO1.out hg2).cell (by simp [go_sem])
  have k4 : w2.cell? ⟨w.heap.size + 1, 2, none⟩ = some (.string e.val) := (Keeps.map HO1.out hg2).cell (by simp [go_sem])
  clear hg2 hO h3
  have ha1 : a < w.heap.size + 1 := by omega
  have ha2 : a < w.heap.size + 1 + 1 := by omega
  go_region
  all_goals
    go_wp2_with (at_mapUpdate; refine wpList_upd rfl _ _ _ rfl Yba.underlying45 Yba.underlying9 (w.heap.size + 1 + 1) [] part (agg e) rfl rfl rfl HE1.out ?_)
    intro w' hH hgr
    go_wp2
    go_end0
    have hsz := HG2.out.size
    simp at hsz
    refine ⟨rfl, ⟨_, Hh.out.new Hg.out H3.out (by omega) hbase HO.out HG2.out HE1.out hH hgr⟩, ?_, ?_⟩
    · exact ((((below_drewN (((Below.refl _ w).alloc hbase _).alloc (by simp; omega) _) nq).alloc (by simp; omega) _).drew).trans (below_map HG2.out (by simp; omega) Hh.out.lo.2)).trans (below_map hgr (by omega) (by omega))
    · exact ((Keeps.of_same (by simp; omega) H3.out).trans (Keeps.map HO1.out HG2.out)).trans (Keeps.map HE1.out hgr)

theorem set_any (base a bo : Nat) (S : List (ByteArray × Inner)) (txn part : ByteArray) (e : Ent) (w : World) (h : State w base a bo S) (hbase : base ≤ w.heap.size) :
    Calls Yba.prog 8 #[.pointer (some ⟨a, 0, none⟩), .agg #[.string txn, .string part], agg e] w fun e' w' => e' = .returned (.tuple #[]) ∧ (∃ bi, State w' base a bo (put S txn (bi, put (cont S txn) part (agg e)))) ∧ Below base w w' ∧ Keeps w w' := by
  cases hg : get S txn with
  | none =>
    have : cont S txn = [] := by simp [cont, hg]
    rw [this]
    exact set_new base a bo S txn part e w h hg hbase
  | some q =>
    obtain ⟨bi, li⟩ := q
    have : cont S txn = li := by simp [cont, hg]
    rw [this]
    exact (set_old base a bo S txn part e bi li w h hg hbase).mono fun _ _ ⟨h1, h2, h3⟩ => ⟨h1, ⟨bi, h2⟩, h3⟩
end Go.Proofs.Ybulkehhy.Walks
