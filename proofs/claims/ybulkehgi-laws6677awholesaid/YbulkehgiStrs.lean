/-
  Slices in rows of the call's own: what they hold; append with the place of its result; zzs6677aclone (f8), zzs6677aeq (f12) where both hold the same.
-/
import Derived.Test.YbulkehgiFold
import Derived.Laws.CopyOwn
import Derived.Laws.AppendOwn
import Derived.Laws.OwnMore
import Derived.Laws.AppendOwnNone
import Derived.ArgAppend
import Derived.OwnWalk
import Derived.WalkSpells
import Derived.Outline
namespace Go.Proofs.Ybulkehgi.Strs
open Go.RowKit Fold

theorem Yba.rowInfo9 : (Yba.prog.info? 9).map (fun i => (i.zero, i.size, i.bytes)) = some (some (.string ⟨#[]⟩), 1, 16) := by kernel_rfl
theorem Yba.rowInfo23 : (Yba.prog.info? 23).map (fun i => (i.zero, i.size, i.bytes)) = some (some (.slice none 0 0), 1, 24) := by kernel_rfl
theorem Yba.rowInfo3 : (Yba.prog.info? 3).map (fun i => (i.zero, i.size, i.bytes)) = some (some (.int .i64 0), 1, 8) := by kernel_rfl
theorem Yba.size9 : (Yba.prog.info? 9).map (·.size) = some 1 := by kernel_rfl

/-- The row v of elements of type e holds xs. -/
def Row (w : World) (B : Nat) (e : TypeId) (v : Value) (xs : List Value) : Prop := w.ownsRow B e 1 v xs.length xs
theorem Row.nil (w : World) (B : Nat) (e : TypeId) : Row w B e (.slice none 0 0) [] := World.ownsRow_nil w B e 1
/-- Nil, or a row's head. -/
theorem Row.form {w : World} {B : Nat} {e : TypeId} {v : Value} {xs : List Value} (h : Row w B e v xs) :
    (v = .slice none 0 0 ∧ xs = []) ∨ ∃ g cap cur, v = .slice (some ⟨g, 0, none⟩) xs.length cap ∧ B ≤ g ∧ g < w.heap.size ∧ w.heap[g]? = some (.cells cur e (0, 0)) ∧ xs.length ≤ cap ∧ cap ≤ maxLen ∧ cur.size = cap ∧ cur.toList.take xs.length = xs := by
  rcases h.2 with ⟨rfl, hn⟩ | ⟨g, cap, cur, rfl, hb, hg, h1, h2, h3, h4⟩
  · exact .inl ⟨rfl, List.eq_nil_of_length_eq_zero hn⟩
  · exact .inr ⟨g, cap, cur, rfl, hb, (Array.getElem?_eq_some_iff.1 hg).1, hg, h1, h2, by simpa using h3, by simpa using h4⟩
theorem Row.of {w : World} {B : Nat} {e : TypeId} {g cap : Nat} {cur : Array Value} {xs : List Value} (hb : B ≤ g) (hg : w.heap[g]? = some (.cells cur e (0, 0))) (h1 : xs.length ≤ cap) (h2 : cap ≤ maxLen) (h3 : cur.size = cap) (h4 : cur.toList.take xs.length = xs) :
    Row w B e (.slice (some ⟨g, 0, none⟩) xs.length cap) xs := ⟨by simp, .inr ⟨g, cap, cur, rfl, hb, hg, h1, h2, by simpa using h3, by simpa using h4⟩⟩
theorem Row.mono {w : World} {B B' : Nat} {e : TypeId} {v : Value} {xs : List Value} (h : Row w B e v xs) (hB : B' ≤ B) : Row w B' e v xs := by
  rcases h.form with ⟨rfl, rfl⟩ | ⟨g, cap, cur, rfl, hb, _, hg, h1, h2, h3, h4⟩
  · exact Row.nil _ _ _
  · exact Row.of (Nat.le_trans hB hb) hg h1 h2 h3 h4
theorem Row.lt {w : World} {B : Nat} {e : TypeId} {v : Value} {xs : List Value} (h : Row w B e v xs) {k : Nat} (hk : v.ownBlock = some k) : B ≤ k ∧ k < w.heap.size := by
  rcases h.form with ⟨rfl, rfl⟩ | ⟨g, cap, cur, rfl, hb, hl, _⟩
  · cases hk
  · cases hk; exact ⟨hb, hl⟩
theorem Row.same {w w' : World} {B : Nat} {e : TypeId} {v : Value} {xs : List Value} (h : Row w B e v xs) (hb : ∀ k, v.ownBlock = some k → w'.heap[k]? = w.heap[k]?) : Row w' B e v xs := by
  rcases h.form with ⟨rfl, rfl⟩ | ⟨g, cap, cur, rfl, hB, _, hg, h1, h2, h3, h4⟩
  · exact Row.nil _ _ _
  · exact Row.of hB ((hb g rfl).trans hg) h1 h2 h3 h4
theorem Row.beyond {w w' : World} {B : Nat} {e : TypeId} {v : Value} {xs : List Value} (h : Row w B e v xs) (hb : Below w.heap.size w w') : Row w' B e v xs := h.same fun _ hk => hb.block _ (h.lt hk).2
theorem Row.kept {w w' : World} {row : Option Nat} {B : Nat} {e : TypeId} {v : Value} {xs : List Value} (h : Row w B e v xs) (hg : w.grownBy w' row) (hne : v.ownBlock = none ∨ v.ownBlock ≠ row) : Row w' B e v xs :=
  h.same fun k hk => hg.block _ (h.lt hk).2 (by rcases hne with h | h <;> rw [hk] at h <;> first | exact h | cases h)
theorem Row.type_ne {w : World} {B B' : Nat} {e e' : TypeId} {v v' : Value} {xs xs' : List Value} (h : Row w B e v xs) (h' : Row w B' e' v' xs') (hne : e ≠ e') : v.ownBlock = none ∨ v.ownBlock ≠ v'.ownBlock := by
  rcases h.form with ⟨rfl, rfl⟩ | ⟨g, cap, cur, rfl, _, _, hg, _⟩
  · exact .inl rfl
  · rcases h'.form with ⟨rfl, rfl⟩ | ⟨g', cap', cur', rfl, _, _, hg', _⟩
    · exact .inr (by simp [Value.ownBlock])
    · refine .inr fun h => ?_
      have e : g = g' := by simpa [Value.ownBlock] using h
      subst e
      rw [hg] at hg'
      injection hg' with h
      injection h with _ h _
      exact hne h
theorem Row.at {w : World} {B : Nat} {e : TypeId} {g n cap : Nat} {xs : List Value} (h : Row w B e (.slice (some ⟨g, 0, none⟩) n cap) xs) (j : Nat) (hj : j < xs.length) : w.cell? ⟨g, j, none⟩ = some xs[j] ∧ w.frozen? ⟨g, j, none⟩ = false := by
  have hn : n = xs.length := by
    rcases h.form with ⟨h, _⟩ | ⟨g', cap', cur', h, _⟩
    · cases h
    · cases h; rfl
  subst hn
  refine ⟨?_, World.ownsRow.frozenAt h j⟩
  rw [World.ownsRow.cellAt h j (by omega), List.getElem?_eq_getElem hj]
theorem Row.set {w : World} {B : Nat} {e : TypeId} {g n cap : Nat} {xs : List Value} (h : Row w B e (.slice (some ⟨g, 0, none⟩) n cap) xs) (j : Nat) (u : Value) : Row (w.setCell ⟨g, j, none⟩ u) B e (.slice (some ⟨g, 0, none⟩) n cap) (xs.set j u) := by
  have hn : n = xs.length := by
    rcases h.form with ⟨h, _⟩ | ⟨g', cap', cur', h, _⟩
    · cases h
    · cases h; rfl
  subst hn
  have := (World.ownsRow.stored h j u).1
  unfold Row
  rw [List.length_set]
  exact this
/-- A slice that was laid down of one piece. -/
theorem Row.lit (w : World) (B : Nat) (e : TypeId) (cs : Array Value) (hB : B ≤ w.heap.size) (hm : cs.size ≤ maxLen) : Row (w.alloc (.cells cs e)) B e (.slice (some ⟨w.heap.size, 0, none⟩) cs.size cs.size) cs.toList := by
  have := Row.of (w := w.alloc (.cells cs e)) (xs := cs.toList) (cap := cs.size) hB (heap_alloc_new w _) (by simp) hm rfl (List.take_of_length_le (Nat.le_refl _))
  simpa using this

/-- append, its result's place told. -/
theorem run_app (w : World) (B : Nat) (t ty e : TypeId) (i : TypeInfo) (z : Value) (bytes : Nat) (ht : Yba.prog.underlying t = some (.slice e)) (hi : Yba.prog.info? e = some i) (hz : i.zero = some z)
    (hsize : i.size = 1) (hby : i.bytes = bytes) (hzs : z.cells.size = 1) (v x : Value) (xs news : List Value) (hv : Row w B e v xs) (hx : Row w 0 e x news) (h1 : ∀ u ∈ news, u.oneCell' = true)
    (h63 : xs.length + news.length ≤ maxLen) (hbytes : (xs.length + news.length) * bytes ≤ 140737488355328) (hB : B ≤ w.heap.size) :
    ∃ v' w', (Builtin.append_ #[t, t] ty #[v, x]).run Yba.prog w = .ok v' w' ∧ Row w' B e v' (xs ++ news) ∧ w.grownBy w' v.ownBlock ∧ (v' = .slice none 0 0 ↔ v = .slice none 0 0 ∧ news = []) ∧
      (v'.ownBlock = v.ownBlock ∨ ∀ k, v'.ownBlock = some k → w.heap.size ≤ k) := by
  rcases hx.form with ⟨rfl, rfl⟩ | ⟨gx, capx, curx, rfl, _, _, hgx, _⟩
  · refine ⟨v, w, run_append_owned_none (P := Yba.prog) w B t ty e i 1 ht hi v _ xs hv, by simpa using hv, World.grownBy.refl _ _, by simp, .inl rfl⟩
  · have hc : ∀ j u, news[j]? = some u → w.cell? ((⟨gx, 0, none⟩ : Addr).add j) = some u := World.ownsRow.cells hx (g := gx) rfl
    have hne : ¬ (Value.slice (some ⟨gx, 0, none⟩) news.length capx = .slice none 0 0) := by simp
    have hlen : ∀ (w' : World) (B' : Nat) (v' : Value), w'.ownsRow B' e 1 v' (xs.length + news.length) (xs ++ news) → Row w' B' e v' (xs ++ news) := by
      intro w' B' v' h
      unfold Row
      rw [List.length_append]
      exact h
    rcases hv.form with ⟨rfl, rfl⟩ | ⟨g, cap, cur, rfl, hbg, hlt, hg, hn, hm, hs, htk⟩
    · obtain ⟨v', w', hr, h2, h3, h4⟩ := run_append_own (P := Yba.prog) w w.heap.size t ty e i z 1 bytes ht hi hz hsize hby hzs (by decide) (.slice none 0 0) 0 [] (World.ownsRow_nil _ _ _ _) ⟨gx, 0, none⟩ news.length capx news (by simp) hc h1 (by simpa using h63) (by simpa using hbytes) (Nat.le_refl _)
      have h5 : Row w' w.heap.size e v' ([] ++ news) := hlen w' _ v' (by simpa using h2)
      refine ⟨v', w', hr, h5.mono hB, h3, ?_, .inr fun k hk => (h5.lt hk).1⟩
      rw [h4]
      simp
    · by_cases hroom : xs.length + news.length ≤ cap
      · obtain ⟨w', hr, h2, h3⟩ := run_append_fits (P := Yba.prog) w B t ty e i 1 ht hi hsize g xs.length cap xs hv ⟨gx, 0, none⟩ news.length capx news (by simp) hc h1 hroom
        exact ⟨_, w', hr, hlen w' _ _ h2, h3, by simp, .inl rfl⟩
      · obtain ⟨v', w', hr, h2, h3⟩ := run_append_arg_grows (P := Yba.prog) w t ty e i z 1 bytes ht hi hz hsize hby hzs (by decide) ⟨g, 0, none⟩ xs.length cap xs (by simp) (World.ownsRow.cells hv (g := g) rfl) ⟨gx, 0, none⟩ news.length capx news (by simp) hc (by omega) h63 hbytes
        have h5 := hlen w' _ v' h2
        refine ⟨v', w', hr, h5.mono hB, ⟨h3.os, h3.tape, h3.output, h3.size, fun k hk _ => h3.block k hk (by simp)⟩, ?_, .inr fun k hk => (h5.lt hk).1⟩
        constructor
        · rintro rfl
          exfalso
          rcases h5.form with ⟨_, h⟩ | ⟨_, _, _, h, _⟩
          · rw [← List.length_eq_zero_iff, List.length_append] at h; omega
          · cases h
        · rintro ⟨h, _⟩; cases h

theorem wpList_app {w : World} {ops : Array Oper} {rest : List Oper} {o : Oper} {a : Act} {Q : Exit → Act → World → Prop} (hgd : o.guard = none) (s x : Operand) (t : TypeId)
    (ho : o.op = .call { callee := .builtin .append, args := #[s, x], argTypes := #[t, t] })
    (B : Nat) (e : TypeId) (i : TypeInfo) (z : Value) (bytes : Nat) (ht : Yba.prog.underlying t = some (.slice e)) (hi : Yba.prog.info? e = some i) (hz : i.zero = some z)
    (hsize : i.size = 1) (hby : i.bytes = bytes) (hzs : z.cells.size = 1) (v y : Value) (hs : a.eval s = v) (hy : a.eval x = y) (xs news : List Value) (hv : Row w B e v xs) (hx : Row w 0 e y news) (h1 : ∀ u ∈ news, u.oneCell' = true)
    (h63 : xs.length + news.length ≤ maxLen) (hbytes : (xs.length + news.length) * bytes ≤ 140737488355328) (hB : B ≤ w.heap.size)
    (h : ∀ v' w', Row w' B e v' (xs ++ news) → w.grownBy w' v.ownBlock → (v' = .slice none 0 0 ↔ v = .slice none 0 0 ∧ news = []) → (v'.ownBlock = v.ownBlock ∨ ∀ k, v'.ownBlock = some k → w.heap.size ≤ k) → wpList Yba.prog ops Q rest (a.put o.dst v') w') :
    wpList Yba.prog ops Q (o :: rest) a w := by
  refine wpList_plain hgd fun K hK => ?_
  obtain ⟨v', w', hr, h2, h3, h4, h5⟩ := run_app w B t o.type e i z bytes ht hi hz hsize hby hzs v y xs news hv hx h1 h63 hbytes hB
  unfold Oper.wp execOp
  simp only [ho, resolve, invoke, builtin, Sem.run_bind, Sem.run_pure, Result.andThen_ok, List.map_toArray, List.map_cons, List.map_nil, hs, hy, hr]
  exact hK _ _ (h v' w' h2 h3 h4 h5)
/-- The same as a step of a region that draws its order. -/
theorem step_app {w : World} {ops : Array Oper} {o : Oper} {a : Act} {K : Act → World → Prop} {Q : Exit → Act → World → Prop} {E : Prop} (hgd : o.guard = none) (s x : Operand) (t : TypeId)
    (ho : o.op = .call { callee := .builtin .append, args := #[s, x], argTypes := #[t, t] })
    (B : Nat) (e : TypeId) (i : TypeInfo) (z : Value) (bytes : Nat) (ht : Yba.prog.underlying t = some (.slice e)) (hi : Yba.prog.info? e = some i) (hz : i.zero = some z)
    (hsize : i.size = 1) (hby : i.bytes = bytes) (hzs : z.cells.size = 1) (v y : Value) (hs : a.eval s = v) (hy : a.eval x = y) (xs news : List Value) (hv : Row w B e v xs) (hx : Row w 0 e y news) (h1 : ∀ u ∈ news, u.oneCell' = true)
    (h63 : xs.length + news.length ≤ maxLen) (hbytes : (xs.length + news.length) * bytes ≤ 140737488355328) (hB : B ≤ w.heap.size)
    (h : ∀ v' w', Row w' B e v' (xs ++ news) → w.grownBy w' v.ownBlock → (v' = .slice none 0 0 ↔ v = .slice none 0 0 ∧ news = []) → (v'.ownBlock = v.ownBlock ∨ ∀ k, v'.ownBlock = some k → w.heap.size ≤ k) → K (a.put o.dst v') w') :
    if Region.wanted o (yielded ops a.tmps) = true then Oper.wp Yba.prog o a w K Q else E := by
  have hw : Region.wanted o (yielded ops a.tmps) = true := by simp [Region.wanted, hgd]
  rw [if_pos hw]
  obtain ⟨v', w', hr, h2, h3, h4, h5⟩ := run_app w B t o.type e i z bytes ht hi hz hsize hby hzs v y xs news hv hx h1 h63 hbytes hB
  unfold Oper.wp execOp
  simp only [ho, resolve, invoke, builtin, Sem.run_bind, Sem.run_pure, Result.andThen_ok, List.map_toArray, List.map_cons, List.map_nil, hs, hy, hr]
  exact h v' w' h2 h3 h4 h5

theorem Drawn.cell {w w' : World} (h : Drawn w w') (a : Addr) : w'.cell? a = w.cell? a := by obtain ⟨n, rfl⟩ := h; rfl
/-- v holds the strings ss. -/
def SS (w : World) (B : Nat) (v : Value) (ss : List ByteArray) : Prop := Row w B 9 v (ss.map Value.string)
theorem SS.row {w : World} {B : Nat} {v : Value} {ss : List ByteArray} (h : SS w B v ss) : Row w B 9 v (ss.map Value.string) := h

/-- The slice at ao with n elements holds the strings ss. -/
def Sl (w : World) (ao : Option Addr) (n : Nat) (ss : List ByteArray) : Prop :=
  ss.length = n ∧ (ao = none → n = 0) ∧ ∀ a, ao = some a → ∀ j v, (ss.map Value.string)[j]? = some v → w.cell? (a.add j) = some v
theorem Sl.nil (w : World) : Sl w none 0 [] := ⟨rfl, fun _ => rfl, fun _ h => by cases h⟩
theorem SS.sl {w : World} {B : Nat} {v : Value} {ss : List ByteArray} (h : SS w B v ss) : ∃ ao cap, v = .slice ao ss.length cap ∧ Sl w ao ss.length ss := by
  rcases h.row.form with ⟨rfl, h0⟩ | ⟨g, cap, cur, rfl, _⟩
  · obtain rfl : ss = [] := by simpa using h0
    exact ⟨none, 0, rfl, Sl.nil w⟩
  · refine ⟨some ⟨g, 0, none⟩, cap, by simp, rfl, by simp, ?_⟩
    rintro a ⟨⟩
    exact World.ownsRow.cells h (g := g) rfl

theorem cells_strs (ss : List ByteArray) : ∀ v ∈ ss.map Value.string, v.oneCell' = true := by
  intro v hv
  obtain ⟨s, _, rfl⟩ := List.mem_map.1 hv
  rfl

/-- What the call of clone hands back. -/
def Copied (w : World) (isNil : Prop) (ss : List ByteArray) (e : Ending) (w' : World) : Prop :=
  ∃ v, e = .returned v ∧ SS w' w.heap.size v ss ∧ (v = .slice none 0 0 ↔ isNil) ∧ Below w.heap.size w w'

theorem row_filled {w : World} {g : Nat} {cur : List Value} {cs : List Value} {n : Nat} (hl : cur.length = n) (hc : cs.length = n) (hm : n ≤ maxLen) {B : Nat} (hB : B ≤ g) (h : w.heap[g]? = some (.cells (splice cur 0 cs).toArray 9 (0, 0))) :
    Row w B 9 (.slice (some ⟨g, 0, none⟩) n n) cs := by
  have e : splice cur 0 cs = cs := by
    unfold splice
    rw [List.take_zero, List.nil_append, Nat.zero_add, List.drop_eq_nil_of_le (by omega), List.append_nil]
  rw [e] at h
  subst hc
  exact Row.of hB h (Nat.le_refl _) hm (by simp) (by simp)

theorem run_copy_strs (w : World) (g n c m : Nat) (sp : Option Addr) (ss : List ByteArray) (cur : List Value) (hg : w.heap[g]? = some (.cells cur.toArray 9 (0, 0))) (hl : cur.length = n) (h : Sl w sp n ss) (hm : n ≤ maxLen) (w0 : World) (B : Nat) (hb : Below B w0 w) (hB : B ≤ g) :
    ∃ w', (Builtin.copy_ #[23, 23] 3 #[.slice (some ⟨g, 0, none⟩) n c, .slice sp n m]).run Yba.prog w = .ok (goInt n) w' ∧ SS w' B (.slice (some ⟨g, 0, none⟩) n n) ss ∧ Below B w0 w' := by
  by_cases h0 : n = 0
  · subst h0
    obtain rfl : ss = [] := List.eq_nil_of_length_eq_zero h.1
    obtain rfl : cur = [] := List.eq_nil_of_length_eq_zero hl
    exact ⟨w, run_copy_none (P := Yba.prog) w 23 23 3 9 _ _ _ _ _ _ Yba.underlying23 Yba.size9 rfl, row_filled (cur := []) rfl rfl (by decide) hB hg, hb⟩
  · cases sp with
    | none => exact absurd (h.2.1 rfl) h0
    | some ad =>
      have hcs : (ss.map Value.string).length = n := by rw [List.length_map]; exact h.1
      have hrun := run_copy_row (P := Yba.prog) w 23 23 3 9 g 0 n c ad n m cur.toArray 9 (ss.map Value.string) Yba.underlying23 Yba.size9 hg (by rw [hcs]; exact (Nat.min_self n).symm) (h.2.2 ad rfl) (by simp only [List.size_toArray]; omega) (cells_strs ss)
      refine ⟨_, by rw [hrun, hcs], row_filled (cur := cur) hl hcs hm hB ?_, below_setRow hb hB _⟩
      have e := setRow_heap w g cur.toArray (cur.toArray.toList.take 0 ++ (ss.map Value.string ++ cur.toArray.toList.drop (0 + (ss.map Value.string).length))).toArray 9 _ hg
      simpa [splice, hcs, h.1] using e

set_option maxHeartbeats 1000000 in
theorem clone_any (ao : Option Addr) (n cap : Nat) (ss : List ByteArray) (w : World) (h : Sl w ao n ss) (hn : n ≤ 1048576) :
    Calls Yba.prog 8 #[.slice ao n cap] w fun e w' => Copied w (ao = none) ss e w' := by
  have hnil := fun w a n c n' c' => Lib.run_eql_slice_nil (P := Yba.prog) w 23 9 a n c n' c' Yba.underlying23
  obtain ⟨i0, hi, hz0, hz1, hz2⟩ := info_parts Yba.rowInfo9
  cases ao with
  | none =>
    have hn0 : n = 0 := h.2.1 rfl
    subst hn0
    have hss : ss = [] := List.eq_nil_of_length_eq_zero h.1
    subst hss
    go_enter Yba.func8, Yba.ntmps8
    go_wp2
    go_ret
    exact ⟨_, rfl, Row.nil _ _ _, by simp, Below.refl _ _⟩
  | some a =>
    have HS := hid h
    clear h
    go_enter Yba.func8, Yba.ntmps8
    go_wp2_with (at_make; refine wpList_make_full _ rfl _ _ 23 rfl w.heap.size 9 i0 _ 1 Yba.underlying23 hi hz0 hz1 _ _ _ _ n rfl rfl rfl rfl ?_ ?_ ?_ ?_)
    · rw [hz2]; omega
    · simp only [maxLen]; omega
    · exact Nat.le_refl _
    · intro w1 hown hgr
      obtain ⟨cur, hcur, hsz⟩ : ∃ cur : List Value, w1.heap[w.heap.size]? = some (.cells cur.toArray 9 (0, 0)) ∧ cur.length = n := by
        rcases hown.2 with ⟨h, _⟩ | ⟨g, cap', cur, h, _, hg, _, _, hs, _⟩
        · cases h
        · cases h
          exact ⟨cur.toList, by simpa using hg, by simpa using hs⟩
      have HB := hid ((Below.refl w.heap.size w).grown hgr (Nat.le_refl _) (by simp))
      have hsl : Sl w1 (some a) n ss := ⟨HS.out.1, HS.out.2.1, fun b hb j v hj => hgr.cell (HS.out.2.2 b hb j v hj) (by simp)⟩
      obtain ⟨w2, hcp, hss, hb2⟩ := run_copy_strs w1 w.heap.size n n cap (some a) ss cur hcur hsz hsl (by simp only [maxLen]; omega) w w.heap.size HB.out (Nat.le_refl _)
      have HG := hid hss
      have HB2 := hid hb2
      clear hown hgr hsl hss hb2 hcur
      go_wp2
      go_ret
      exact ⟨_, rfl, HG.out, by simp, HB2.out⟩

theorem clone_ss (v : Value) (B : Nat) (ss : List ByteArray) (w : World) (h : SS w B v ss) (hn : ss.length ≤ 1048576) :
    Calls Yba.prog 8 #[v] w fun e w' => Copied w (v = .slice none 0 0) ss e w' := by
  obtain ⟨ao, cap, rfl, hs⟩ := h.sl
  refine (clone_any ao ss.length cap ss w hs hn).mono ?_
  rintro e w' ⟨v, h1, h2, h3, h4⟩
  refine ⟨v, h1, h2, h3.trans ?_, h4⟩
  constructor
  · rintro rfl
    have := hs.2.1 rfl
    rcases h.row.form with ⟨h, _⟩ | ⟨g, c, cur, h, _⟩
    · exact h
    · cases h
  · intro h; injection h

theorem SS.shape {w : World} {B : Nat} {v : Value} {ss : List ByteArray} (h : SS w B v ss) :
    (v = .slice none 0 0 ∧ ss = []) ∨ ∃ g cap, v = .slice (some ⟨g, 0, none⟩) ss.length cap ∧ ss.length ≤ cap ∧ cap ≤ maxLen ∧ B ≤ g ∧ g < w.heap.size ∧ ∀ j (hj : j < ss.length), w.cell? ⟨g, j, none⟩ = some (.string ss[j]) := by
  rcases h.row.form with ⟨rfl, h0⟩ | ⟨g, cap, cur, rfl, hB, hlt, hg, hn, hm, _⟩
  · exact .inl ⟨rfl, by simpa using h0⟩
  · refine .inr ⟨g, cap, by simp, by simpa using hn, hm, hB, hlt, fun j hj => ?_⟩
    have := (h.row.at j (by simpa using hj)).1
    simpa using this

set_option maxHeartbeats 1000000 in
theorem eq_same (a b : Value) (ss : List ByteArray) (w : World) (ha : SS w 0 a ss) (hb : SS w 0 b ss) (hnil : a = .slice none 0 0 ↔ b = .slice none 0 0) :
    Calls Yba.prog 12 #[a, b] w fun e w' => e = .returned (.bool true) ∧ Drawn w w' := by
  have hnilr := fun w a n c n' c' => Lib.run_eql_slice_nil (P := Yba.prog) w 23 9 a n c n' c' Yba.underlying23
  rcases ha.shape with ⟨rfl, rfl⟩ | ⟨g, cap, rfl, hn, hm, _, _, hc⟩
  · obtain rfl := hnil.1 rfl
    clear ha hb hnil
    go_enter Yba.func12, Yba.ntmps12
    go_wp2
    go_loopw [5] (fun i wr => i = .int .i64 0 ∧ wr = w) (fun _ _ => 0)
    case atStart => exact ⟨rfl, rfl⟩
    case round =>
      obtain ⟨rfl, rfl⟩ := hrel
      go_wp2
      go_ret
      exact ⟨rfl, Drawn.refl _⟩
  · rcases hb.shape with ⟨rfl, rfl⟩ | ⟨g', cap', rfl, _, _, _, _, hc'⟩
    · exact absurd (hnil.2 rfl) (by simp)
    · have HC := hid hc
      have HC' := hid hc'
      simp only [maxLen] at hm
      clear hc hc' ha hb hnil
      go_enter Yba.func12, Yba.ntmps12
      go_wp2
      go_loopw [5] (fun i wr => ∃ k : Nat, k ≤ ss.length ∧ i = .int .i64 k ∧ Drawn w wr) (fun i _ => ss.length - (intOf i).toNat)
      case atStart => exact ⟨0, Nat.zero_le _, rfl, Drawn.refl _⟩
      case round =>
        obtain ⟨k, hk, rfl, hdr⟩ := hrel
        by_cases hlt : k < ss.length
        · have c1 : wr.cell? ⟨g, k, none⟩ = some (.string ss[k]) := Drawn.cell hdr _ ▸ HC.out k hlt
          have c2 : wr.cell? ⟨g', k, none⟩ = some (.string ss[k]) := Drawn.cell hdr _ ▸ HC'.out k hlt
          have HD := hid hdr
          clear hdr
          go_wp2
          go_quiet (fail)
          go_wp2
          go_roundw
          case rel => exact ⟨k + 1, by omega, by go_num, HD.out.more _⟩
          case measure => simp [intOf]; omega
        · go_wp2
          go_ret
          exact ⟨rfl, hdr⟩
end Go.Proofs.Ybulkehgi.Strs
