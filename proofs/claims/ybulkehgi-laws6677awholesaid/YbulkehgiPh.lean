/-
  What LawS6677AWhole builds of its entries: the keys, each once, and the values.
-/
import Derived.Test.YbulkehgiModel
import Derived.Test.YbulkehgiFlip
namespace Go.Proofs.Ybulkehgi.Ph
open Go.RowKit Fold Strs Spell SM Car Srt Vals ReadF Model

structure Phase (w : World) (ks vs : Value) (V : List Value) (kv : KV) (wr : World) : Prop where
  below : Below w.heap.size w wr
  rk : Row wr w.heap.size 9 ks ((keys kv).map Value.string)
  rv : Row wr w.heap.size 23 vs V
  len : V.length = kv.length
  inn : ∀ i (h : i < kv.length) (h' : i < V.length), Inn wr wr.heap.size V[i] kv[i].2
  away : ∀ i (h' : i < V.length) k, ks.ownBlock = some k → V[i].ownBlock ≠ some k
  low : ∀ i (h' : i < V.length) k, V[i].ownBlock = some k → w.heap.size ≤ k
  nodup : (keys kv).Nodup
  size : ∀ q ∈ keys kv, q.size ≤ 140737488355328
  each : ∀ p ∈ kv, (strs p.2).length ≤ 65536

theorem Phase.start (w wr : World) (h : Below w.heap.size w wr) : Phase w (.slice none 0 0) (.slice none 0 0) [] [] wr :=
  ⟨h, Row.nil _ _ _, Row.nil _ _ _, rfl, fun i h => by simp at h, fun i h => by simp at h, fun i h => by simp at h, by simp [keys], by simp [keys], by simp⟩
theorem Phase.beyond {w : World} {ks vs : Value} {V : List Value} {kv : KV} {wr w' : World} (h : Phase w ks vs V kv wr) (hb : Below wr.heap.size wr w') : Phase w ks vs V kv w' :=
  ⟨h.below.trans (hb.mono h.below.size), h.rk.beyond hb, h.rv.beyond hb, h.len, fun i h1 h2 => ((h.inn i h1 h2).same hb.block).mono hb.size, h.away, h.low, h.nodup, h.size, h.each⟩
theorem Phase.mod {w : World} {ks vs : Value} {V : List Value} {kv : KV} {wr : World} (h : Phase w ks vs V kv wr) (hl : kv.length ≤ 4096) : Mod wr ks vs V kv :=
  ⟨h.rk.mono (Nat.zero_le _), h.rv.mono (Nat.zero_le _), h.len, h.inn, h.nodup, ⟨hl, h.each⟩, fun q hq => Nat.le_trans (h.size q hq) (by decide)⟩

/-- A value of its own that waits to be laid into vs. -/
structure Fresh (w : World) (ks : Value) (v : Value) (vl : VL) (wr : World) : Prop where
  row : SS wr w.heap.size v (strs vl)
  isNil : v = .slice none 0 0 ↔ vl = none
  away : ∀ k, ks.ownBlock = some k → v.ownBlock ≠ some k
theorem Fresh.beyond {w : World} {ks v : Value} {vl : VL} {wr w' : World} (h : Fresh w ks v vl wr) (hb : Below wr.heap.size wr w') : Fresh w ks v vl w' := ⟨h.row.row.beyond hb, h.isNil, h.away⟩
theorem Fresh.of {w : World} {ks vs : Value} {V : List Value} {kv : KV} {w0 wr : World} {v : Value} {vl : VL} (h : Phase w ks vs V kv w0) (hr : SS wr w0.heap.size v (strs vl)) (hn : v = .slice none 0 0 ↔ vl = none) : Fresh w ks v vl wr :=
  ⟨hr.row.mono h.below.size, hn, fun k h1 h2 => by have := (h.rk.lt h1).2; have := (hr.row.lt h2).1; omega⟩

theorem keys_append (kv : KV) (k : ByteArray) (vl : VL) : keys (kv ++ [(k, vl)]) = keys kv ++ [k] := by simp [keys]

/-- ks = append(ks, k) -/
structure Half (w : World) (ks vs : Value) (V : List Value) (kv : KV) (k : ByteArray) (v : Value) (vl : VL) (wr : World) : Prop where
  below : Below w.heap.size w wr
  rk : Row wr w.heap.size 9 ks ((keys kv ++ [k]).map Value.string)
  rv : Row wr w.heap.size 23 vs V
  len : V.length = kv.length
  inn : ∀ i (h : i < kv.length) (h' : i < V.length), Inn wr wr.heap.size V[i] kv[i].2
  away : ∀ i (h' : i < V.length) k, ks.ownBlock = some k → V[i].ownBlock ≠ some k
  low : ∀ i (h' : i < V.length) k, V[i].ownBlock = some k → w.heap.size ≤ k
  nodup : (keys kv).Nodup
  size : ∀ q ∈ keys kv, q.size ≤ 140737488355328
  each : ∀ p ∈ kv, (strs p.2).length ≤ 65536
  fresh : Fresh w ks v vl wr
theorem Phase.half {w : World} {ks vs ks' : Value} {V : List Value} {kv : KV} {wr w1 : World} {k : ByteArray} {v : Value} {vl : VL} {o : Obj} (h : Phase w ks vs V kv wr) (hf : Fresh w ks v vl wr) (hg : (wr.alloc o).grownBy w1 ks.ownBlock)
    (hr : Row w1 w.heap.size 9 ks' ((keys kv).map Value.string ++ [.string k])) (hp : ks'.ownBlock = ks.ownBlock ∨ ∀ b, ks'.ownBlock = some b → wr.heap.size ≤ b) : Half w ks' vs V kv k v vl w1 := by
  have hK : Keeps (fun b => ks.ownBlock = some b) wr w1 := (Keeps.alloc wr o _).trans (Keeps.of_grown hg)
  have hpl : ∀ (x : Value) (b : Nat), (∀ c, ks.ownBlock = some c → x.ownBlock ≠ some c) → (∀ c, x.ownBlock = some c → c < wr.heap.size) → ks'.ownBlock = some b → x.ownBlock ≠ some b := by
    intro x b h1 h2 h3 h4
    rcases hp with hp | hp
    · exact h1 b (hp ▸ h3) h4
    · have := hp b h3; have := h2 b h4; omega
  refine ⟨h.below.trans (hK.below h.below.size fun b hb => (h.rk.lt hb).1), by rw [List.map_append]; exact hr, hK.row h.rv fun b hb e => ?_, h.len, fun i h1 h2 => ?_, fun i h1 b hb => hpl _ b (h.away i h1) (fun c hc => (h.inn i (by rw [← h.len]; exact h1) h1).lt c hc) hb, h.low, h.nodup, h.size, h.each, ⟨hK.row hf.row fun b hb e => hf.away b e hb, hf.isNil, fun b hb => hpl v b hf.away (fun c hc => (hf.row.row.lt hc).2) hb⟩⟩
  · have := Row.type_ne h.rv h.rk (by decide)
    rcases this with h1 | h1
    · rw [h1] at hb; cases hb
    · exact h1 (by rw [hb, e])
  · have hi := h.inn i h1 h2
    exact ⟨hK.row hi.row fun b hb e => h.away i h2 b e hb, hi.isNil, fun b hb => Nat.lt_of_lt_of_le (hi.lt b hb) hK.size⟩
/-- vs = append(vs, v) -/
theorem Half.whole {w : World} {ks vs vs' : Value} {V : List Value} {kv : KV} {wr w1 : World} {k : ByteArray} {v : Value} {vl : VL} {o : Obj} (h : Half w ks vs V kv k v vl wr) (hg : (wr.alloc o).grownBy w1 vs.ownBlock)
    (hr : Row w1 w.heap.size 23 vs' (V ++ [v])) (hk : k ∉ keys kv) (hs : k.size ≤ 140737488355328) (hl : (strs vl).length ≤ 65536) : Phase w ks vs' (V ++ [v]) (kv ++ [(k, vl)]) w1 := by
  have hK : Keeps (fun b => vs.ownBlock = some b) wr w1 := (Keeps.alloc wr o _).trans (Keeps.of_grown hg)
  have hne : ∀ (x : Value) (ss : List ByteArray), SS wr 0 x ss → ∀ b, x.ownBlock = some b → ¬ vs.ownBlock = some b := fun x ss hx b hb e => by
    rcases Row.type_ne hx.row h.rv (by decide) with h1 | h1
    · rw [h1] at hb; cases hb
    · exact h1 (by rw [hb, e])
  refine ⟨h.below.trans (hK.below h.below.size fun b hb => (h.rv.lt hb).1), ?_, hr, by simp [h.len], fun i h1 h2 => ?_, fun i h1 b hb => ?_, fun i h1 b hb => ?_, ?_, ?_, ?_⟩
  · rw [keys_append]
    exact hK.row h.rk fun b hb e => hne ks (keys kv ++ [k]) (h.rk.mono (Nat.zero_le _)) b hb e
  · by_cases hi : i < kv.length
    · have hiV : i < V.length := by rw [h.len]; exact hi
      rw [List.getElem_append_left hiV, List.getElem_append_left hi]
      have hin := h.inn i hi hiV
      exact ⟨hK.row hin.row fun b hb e => hne _ _ hin.row b hb e, hin.isNil, fun b hb => Nat.lt_of_lt_of_le (hin.lt b hb) hK.size⟩
    · have hi2 : i = kv.length := by simp at h1; omega
      subst hi2
      have e1 : (V ++ [v])[kv.length]'h2 = v := by rw [List.getElem_append_right (by rw [h.len]; exact Nat.le_refl _)]; simp
      have e2 : (kv ++ [(k, vl)])[kv.length]'h1 = (k, vl) := by rw [List.getElem_append_right (Nat.le_refl _)]; simp
      rw [e1, e2]
      exact ⟨(hK.row h.fresh.row fun b hb e => hne v (strs vl) (h.fresh.row.row.mono (Nat.zero_le _)) b hb e).mono (Nat.zero_le _), h.fresh.isNil, fun b hb => Nat.lt_of_lt_of_le (h.fresh.row.row.lt hb).2 hK.size⟩
  · by_cases hi : i < V.length
    · rw [List.getElem_append_left hi]; exact h.away i hi b hb
    · have : (V ++ [v])[i]'h1 = v := by rw [List.getElem_append_right (by omega)]; simp
      rw [this]; exact h.fresh.away b hb
  · by_cases hi : i < V.length
    · rw [List.getElem_append_left hi] at hb; exact h.low i hi b hb
    · have : (V ++ [v])[i]'h1 = v := by rw [List.getElem_append_right (by omega)]; simp
      rw [this] at hb; exact (h.fresh.row.row.lt hb).1
  · rw [keys_append]
    refine List.nodup_append.2 ⟨h.nodup, by simp, ?_⟩
    intro a ha c hc e
    rw [List.mem_singleton.1 hc] at e
    exact hk (e ▸ ha)
  · rw [keys_append]
    intro q hq
    rcases List.mem_append.1 hq with hq | hq
    · exact h.size q hq
    · rw [List.mem_singleton.1 hq]; exact hs
  · intro p hp
    rcases List.mem_append.1 hp with hp | hp
    · exact h.each p hp
    · rw [List.mem_singleton.1 hp]; exact hl
/-- vs[j] = v -/
theorem Phase.set {w : World} {ks : Value} {V : List Value} {kv : KV} {wr : World} {v : Value} {vl : VL} {gv n cap j : Nat} (h : Phase w ks (.slice (some ⟨gv, 0, none⟩) n cap) V kv wr) (hf : Fresh w ks v vl wr) (hj : j < kv.length) (hl : (strs vl).length ≤ 65536) :
    Phase w ks (.slice (some ⟨gv, 0, none⟩) n cap) (V.set j v) (kv.set j (kv[j].1, vl)) (wr.setCell ⟨gv, j, none⟩ v) := by
  have hK : Keeps (fun b => b = gv) wr (wr.setCell ⟨gv, j, none⟩ v) := Keeps.set _ _ _ rfl
  have hne : ∀ (x : Value) (ss : List ByteArray), SS wr 0 x ss → ∀ b, x.ownBlock = some b → ¬ b = gv := fun x ss hx b hb e => by
    rcases Row.type_ne hx.row h.rv (by decide) with h1 | h1
    · rw [h1] at hb; cases hb
    · exact h1 (by rw [hb, e]; rfl)
  have hge : w.heap.size ≤ gv := (h.rv.lt (k := gv) rfl).1
  have hks : keys (kv.set j (kv[j].1, vl)) = keys kv := by
    unfold keys
    rw [List.map_set]
    apply List.ext_getElem?
    intro i
    rw [List.getElem?_set]
    by_cases e : j = i
    · subst e; simp [hj]
    · rw [if_neg e]
  refine ⟨h.below.trans (hK.below h.below.size fun b hb => by subst hb; exact hge), ?_, h.rv.set j v, by simp [h.len], fun i h1 h2 => ?_, fun i h1 b hb => ?_, fun i h1 b hb => ?_, ?_, ?_, ?_⟩
  · rw [hks]
    exact hK.row h.rk fun b hb e => hne ks (keys kv) (h.rk.mono (Nat.zero_le _)) b hb e
  · have hi : i < kv.length := by simpa using h1
    have hiV : i < V.length := by rw [h.len]; exact hi
    by_cases e : j = i
    · subst e
      rw [List.getElem_set_self, List.getElem_set_self]
      exact ⟨(hK.row hf.row fun b hb e => hne v (strs vl) (hf.row.row.mono (Nat.zero_le _)) b hb e).mono (Nat.zero_le _), hf.isNil, fun b hb => Nat.lt_of_lt_of_le (hf.row.row.lt hb).2 hK.size⟩
    · rw [List.getElem_set_ne e, List.getElem_set_ne e]
      have hin := h.inn i hi hiV
      exact ⟨hK.row hin.row fun b hb e => hne _ _ hin.row b hb e, hin.isNil, fun b hb => Nat.lt_of_lt_of_le (hin.lt b hb) hK.size⟩
  · have hi : i < V.length := by simpa using h1
    by_cases e : j = i
    · subst e; rw [List.getElem_set_self]; exact hf.away b hb
    · rw [List.getElem_set_ne e]; exact h.away i hi b hb
  · have hi : i < V.length := by simpa using h1
    by_cases e : j = i
    · subst e; rw [List.getElem_set_self] at hb; exact (hf.row.row.lt hb).1
    · rw [List.getElem_set_ne e] at hb; exact h.low i hi b hb
  · rw [hks]; exact h.nodup
  · rw [hks]; exact h.size
  · intro p hp
    rcases List.mem_or_eq_of_mem_set hp with hp | rfl
    · exact h.each p hp
    · exact hl
end Go.Proofs.Ybulkehgi.Ph
