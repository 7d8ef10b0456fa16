/-
  The three carriers: what they hold; their Values (f65, f72, f62) and the third one's Keys (f60).
-/
import Derived.Test.YbulkehgiSpell
import Derived.Test.YbulkehgiMaps
namespace Go.Proofs.Ybulkehgi.Car
open Go.RowKit Fold Strs Spell SM

abbrev VL := Option (List ByteArray)
abbrev KV := List (ByteArray × VL)
def strs (vl : VL) : List ByteArray := vl.getD []
def Small (kv : KV) : Prop := kv.length ≤ 4096 ∧ ∀ p ∈ kv, (strs p.2).length ≤ 65536

structure Inn (w : World) (B : Nat) (v : Value) (vl : VL) : Prop where
  row : SS w 0 v (strs vl)
  isNil : v = .slice none 0 0 ↔ vl = none
  lt : ∀ k, v.ownBlock = some k → k < B
theorem Inn.same {w w' : World} {B : Nat} {v : Value} {vl : VL} (h : Inn w B v vl) (hb : ∀ k, k < B → w'.heap[k]? = w.heap[k]?) : Inn w' B v vl := ⟨h.row.row.same fun k hk => hb k (h.lt k hk), h.isNil, h.lt⟩
theorem Inn.mono {w : World} {B B' : Nat} {v : Value} {vl : VL} (h : Inn w B v vl) (hB : B ≤ B') : Inn w B' v vl := ⟨h.row, h.isNil, fun k hk => Nat.lt_of_lt_of_le (h.lt k hk) hB⟩

def CarH (w : World) (B b : Nat) (kv : KV) : Prop := b < B ∧ ∃ l, Holds w b l ∧ keys l = keys kv ∧ ∀ k vl, get kv k = some vl → ∃ v, get l k = some v ∧ Inn w B v vl
def CarM (w : World) (B b : Nat) (kv : KV) : Prop := b < B ∧ ∃ l, Holds w b l ∧ keys l = keys kv ∧ ∀ k vl, get kv k = some vl → ∃ s, get l k = some (.string s) ∧ vl = some [s]
structure CarOat (w : World) (B ob : Nat) (n : Int) (kv : KV) (ks vs : Value) (V : List Value) : Prop where
  c0 : w.cell? ⟨ob, 0, none⟩ = some ks
  c1 : w.cell? ⟨ob, 1, none⟩ = some vs
  c2 : w.cell? ⟨ob, 2, none⟩ = some (.int .i64 n)
  fr : ∀ j, w.frozen? ⟨ob, j, none⟩ = false
  lt : ob < B
  rk : SS w 0 ks (keys kv)
  rv : Row w 0 23 vs V
  len : V.length = kv.length
  inn : ∀ i (h : i < kv.length) (h' : i < V.length), Inn w B V[i] kv[i].2
  lk : ∀ k, ks.ownBlock = some k → k < B ∧ k ≠ ob
  lv : ∀ k, vs.ownBlock = some k → k < B ∧ k ≠ ob
  li : ∀ i (h' : i < V.length), V[i].ownBlock ≠ some ob
  nk : kv = [] → ks = .slice none 0 0
def CarO (w : World) (B ob : Nat) (n : Int) (kv : KV) : Prop := ∃ ks vs V, CarOat w B ob n kv ks vs V

theorem CarH.same {w w' : World} {B b : Nat} {kv : KV} (h : CarH w B b kv) (hb : ∀ k, k < B → w'.heap[k]? = w.heap[k]?) : CarH w' B b kv := by
  obtain ⟨hlt, l, h1, h2, h3⟩ := h
  refine ⟨hlt, l, h1.same (hb b hlt), h2, fun k vl hk => ?_⟩
  obtain ⟨v, h4, h5⟩ := h3 k vl hk
  exact ⟨v, h4, h5.same hb⟩
theorem CarM.same {w w' : World} {B b : Nat} {kv : KV} (h : CarM w B b kv) (hb : ∀ k, k < B → w'.heap[k]? = w.heap[k]?) : CarM w' B b kv := by
  obtain ⟨hlt, l, h1, h2, h3⟩ := h
  exact ⟨hlt, l, h1.same (hb b hlt), h2, h3⟩
theorem CarOat.same {w w' : World} {B ob : Nat} {n : Int} {kv : KV} {ks vs : Value} {V : List Value} (h : CarOat w B ob n kv ks vs V) (hb : ∀ k, k < B → w'.heap[k]? = w.heap[k]?) : CarOat w' B ob n kv ks vs V where
  c0 := (World.cell?_of_block (w := w) (hb ob h.lt)).trans h.c0
  c1 := (World.cell?_of_block (w := w) (hb ob h.lt)).trans h.c1
  c2 := (World.cell?_of_block (w := w) (hb ob h.lt)).trans h.c2
  fr j := (World.frozen?_of_block (w := w) (hb ob h.lt)).trans (h.fr j)
  lt := h.lt
  rk := h.rk.row.same fun k hk => hb k (h.lk k hk).1
  rv := h.rv.same fun k hk => hb k (h.lv k hk).1
  len := h.len
  inn i h1 h2 := (h.inn i h1 h2).same hb
  lk := h.lk
  lv := h.lv
  li := h.li
  nk := h.nk
theorem CarO.same {w w' : World} {B ob : Nat} {n : Int} {kv : KV} (h : CarO w B ob n kv) (hb : ∀ k, k < B → w'.heap[k]? = w.heap[k]?) : CarO w' B ob n kv := by
  obtain ⟨ks, vs, V, h⟩ := h
  exact ⟨ks, vs, V, h.same hb⟩

/-- What Values hands back. -/
def ValPost (w : World) (B : Nat) (vl : VL) (e : Ending) (w' : World) : Prop :=
  ∃ v, e = .returned v ∧ SS w' 0 v (strs vl) ∧ (v = .slice none 0 0 ↔ vl = none) ∧ (∀ k, v.ownBlock = some k → k < B ∨ w.heap.size ≤ k) ∧ Below w.heap.size w w'

theorem valuesH (w : World) (B b : Nat) (kv : KV) (k : ByteArray) (vl : VL) (h : CarH w B b kv) (hk : get kv k = some vl) : Calls Yba.prog 65 #[.map (some b), .string k] w (ValPost w B vl) := by
  obtain ⟨hlt, l, h1, h2, h3⟩ := h
  obtain ⟨v, h4, h5⟩ := h3 k vl hk
  have hl := run_lookup (P := Yba.prog) h1 Yba.underlying33 Yba.underlying9 (Yba.zeroValue23 w) k false
  rw [h4] at hl
  simp only [Option.getD_some, Bool.false_eq_true, if_false] at hl
  have HV := hid h5
  clear h1 h2 h3 h5
  go_enter Yba.func65, Yba.ntmps65
  go_wp2
  go_ret
  exact ⟨v, rfl, HV.out.row, HV.out.isNil, fun k hk => .inl (HV.out.lt k hk), Below.refl _ _⟩

theorem valuesM (w : World) (B b : Nat) (kv : KV) (k : ByteArray) (vl : VL) (h : CarM w B b kv) (hk : get kv k = some vl) : Calls Yba.prog 72 #[.map (some b), .string k] w (ValPost w B vl) := by
  obtain ⟨hlt, l, h1, h2, h3⟩ := h
  obtain ⟨s, h4, rfl⟩ := h3 k vl hk
  have hl := run_lookup (P := Yba.prog) h1 Yba.underlying35 Yba.underlying9 (Yba.zeroValue9 w) k true
  rw [h4] at hl
  simp only [Option.getD_some, Option.isSome_some, if_true] at hl
  clear h1 h2 h3 
  go_enter Yba.func72, Yba.ntmps72
  go_wp2
  go_ret
  have hr := Row.lit w w.heap.size 9 #[.string s] (Nat.le_refl _) (by simp [maxLen])
  exact ⟨_, rfl, hr.mono (Nat.zero_le _), by simp, fun k hk => .inr (hr.lt hk).1, (Below.refl _ w).alloc (Nat.le_refl _) _⟩

theorem get_index {kv : KV} {k : ByteArray} {vl : VL} (h : get kv k = some vl) : ∃ i, ∃ h : i < kv.length, kv[i] = (k, vl) ∧ ∀ j (hj : j < i), kv[j].1 ≠ k := by
  induction kv with
  | nil => cases h
  | cons p r ih =>
    rw [SM.get] at h
    by_cases e : p.1 = k
    · rw [if_pos e] at h
      refine ⟨0, by simp, ?_, fun j hj => absurd hj (by omega)⟩
      cases p
      simp only [Option.some.injEq] at h e
      simp [h, e]
    · rw [if_neg e] at h
      obtain ⟨i, hi, h1, h2⟩ := ih h
      refine ⟨i + 1, by simpa using hi, by simpa using h1, fun j hj => ?_⟩
      cases j with
      | zero => exact e
      | succ j => exact h2 j (by omega)

theorem str_ne {a b : ByteArray} (h : a ≠ b) : (a.toList == b.toList) = false := by
  rw [Bool.eq_false_iff]
  intro e
  rw [beq_iff_eq, ByteArray.toList_eq, ByteArray.toList_eq] at e
  exact h (Srt.by_inj e)

set_option maxHeartbeats 1000000 in
theorem valuesO (w : World) (B ob : Nat) (n : Int) (kv : KV) (k : ByteArray) (vl : VL) (h : CarO w B ob n kv) (hk : get kv k = some vl) (hs : kv.length ≤ 4096) : Calls Yba.prog 62 #[.pointer (some ⟨ob, 0, none⟩), .string k] w (ValPost w B vl) := by
  obtain ⟨ks, vs, V, h⟩ := h
  obtain ⟨i, hi, h1, h2⟩ := get_index hk
  have hiV : i < V.length := by rw [h.len]; exact hi
  have c0 := h.c0
  have c1 := h.c1
  have hkl : (keys kv).length = kv.length := by simp [keys]
  have hkat : ∀ j (hj : j < (keys kv).length), (keys kv)[j] = (kv[j]'(by omega)).1 := fun j hj => by simp [keys]
  rcases h.rk.shape with ⟨rfl, he⟩ | ⟨gk, ck, rfl, _, _, _, _, hck⟩
  · rw [he] at hkl; simp at hkl; omega
  rcases h.rv.form with ⟨rfl, he⟩ | ⟨gv, cv, curv, rfl, _⟩
  · rw [he] at hiV; simp at hiV
  have hcv := fun j hj => (h.rv.at j hj).1
  have hinn := h.inn i hi hiV
  rw [h1] at hinn
  have HI := hid hinn
  have HCK := hid hck
  have HCV := hid hcv
  have HKA := hid hkat
  have hVl := h.len
  have H2 := hid h2
  have H1 := hid h1
  clear hinn hck hcv hkat h h2 h1 hk
  rw [hkl] at c0
  rw [hVl] at c1
  go_enter Yba.func62, Yba.ntmps62
  go_wp2
  go_loopw [5] (fun x wr => ∃ j : Nat, j ≤ i ∧ x = .int .i64 j ∧ wr = w) (fun x _ => i - (intOf x).toNat)
  case atStart => exact ⟨0, Nat.zero_le _, rfl, rfl⟩
  case round =>
    obtain ⟨j, hj, rfl, rfl⟩ := hrel
    have hjk : j < (keys kv).length := by omega
    have cj := HCK.out j hjk
    rw [HKA.out j hjk] at cj
    by_cases he : j = i
    · subst he
      rw [H1.out] at cj
      have cjv := HCV.out j hiV
      go_wp2
      go_ret
      exact ⟨_, rfl, HI.out.row, HI.out.isNil, fun k hk => .inl (HI.out.lt k hk), Below.refl _ _⟩
    · have hne := str_ne (H2.out j (by omega))
      go_wp2
      go_roundw
      case rel => exact ⟨j + 1, by omega, by go_num, trivial⟩
      case measure => simp [intOf]; omega

/-- What Keys hands back. -/
def KeysPost (w : World) (B ob : Nat) (kv : KV) (e : Ending) (w' : World) : Prop :=
  ∃ v, e = .returned v ∧ SS w' w.heap.size v (keys kv) ∧ CarO w' B ob 1 kv ∧ Keeps (fun b => b = ob) w w'

theorem CarOat.counted {w : World} {B ob : Nat} {n m : Int} {kv : KV} {ks vs : Value} {V : List Value} (h : CarOat w B ob n kv ks vs V) : CarOat (w.setCell ⟨ob, 2, none⟩ (.int .i64 m)) B ob m kv ks vs V where
  c0 := by rw [World.cell?_setCell_other (h := by simp)]; exact h.c0
  c1 := by rw [World.cell?_setCell_other (h := by simp)]; exact h.c1
  c2 := by rw [World.cell?_setCell_same (h := h.c2)]
  fr j := by rw [World.frozen?_setCell]; exact h.fr j
  lt := h.lt
  rk := (Keeps.set w ⟨ob, 2, none⟩ _ (M := fun b => b = ob) rfl).row h.rk fun k hk e => (h.lk k hk).2 e
  rv := (Keeps.set w ⟨ob, 2, none⟩ _ (M := fun b => b = ob) rfl).row h.rv fun k hk e => (h.lv k hk).2 e
  len := h.len
  inn i h1 h2 := ⟨(Keeps.set w ⟨ob, 2, none⟩ _ (M := fun b => b = ob) rfl).row (h.inn i h1 h2).row fun k hk e => h.li i h2 (by rw [hk, e]), (h.inn i h1 h2).isNil, (h.inn i h1 h2).lt⟩
  lk := h.lk
  lv := h.lv
  li := h.li
  nk := h.nk

set_option maxHeartbeats 1000000 in
theorem keysO (w : World) (B ob : Nat) (kv : KV) (h : CarO w B ob 0 kv) (hs : kv.length ≤ 4096) (hB : B ≤ w.heap.size) : Calls Yba.prog 60 #[.pointer (some ⟨ob, 0, none⟩)] w (KeysPost w B ob kv) := by
  obtain ⟨ks, vs, V, h⟩ := h
  obtain ⟨i0, hi, hz0, hz1, hz2⟩ := info_parts Yba.rowInfo9
  have c2 := h.c2
  have f2 := h.fr 2
  have h1 := h.counted (m := 1)
  have d0 := h1.c0
  have hkl : (keys kv).length = kv.length := by simp [keys]
  obtain ⟨ao, cap, rfl, hsl⟩ := h1.rk.sl
  rw [hkl] at hsl d0
  have HS := hid hsl
  have H1 := hid h1
  have hlt := h.lt
  clear h h1 hsl hkl
  generalize hw1 : w.setCell ⟨ob, 2, none⟩ (.int .i64 1) = w1 at *
  have hk1 : Keeps (fun b => b = ob) w w1 := by rw [← hw1]; exact Keeps.set _ _ _ rfl
  have hsz1 : w1.heap.size = w.heap.size := by rw [← hw1]; simp
  have HK1 := hid hk1
  clear hk1
  go_enter Yba.func60, Yba.ntmps60
  go_wp2_with (at_make; refine wpList_make_full _ rfl _ _ 23 rfl w1.heap.size 9 i0 _ 1 Yba.underlying23 hi hz0 hz1 _ _ _ _ kv.length rfl rfl rfl rfl ?_ ?_ ?_ ?_)
  · rw [hz2]; omega
  · simp only [maxLen]; omega
  · exact Nat.le_refl _
  · intro w2 hown hgr
    obtain ⟨cur, hcur, hsz⟩ : ∃ cur : List Value, w2.heap[w.heap.size]? = some (.cells cur.toArray 9 (0, 0)) ∧ cur.length = kv.length := by
      rcases hown.2 with ⟨h, _⟩ | ⟨g, cap', cur, h, _, hg, _, _, hs, _⟩
      · cases h
      · have e : w.heap.size = g := by injection h with h _ _; injection h with h; injection h
        have e2 : kv.length = cap' := by injection h
        subst e e2
        exact ⟨cur.toList, by simpa using hg, by simpa using hs⟩
    have HB := hid ((Below.refl w.heap.size w1).grown hgr (by omega) (by simp))
    have hsl : Sl w2 ao kv.length (keys kv) := ⟨HS.out.1, HS.out.2.1, fun b hb j v hj => hgr.cell (HS.out.2.2 b hb j v hj) (by simp)⟩
    have e0 : w2.cell? ⟨ob, 0, none⟩ = some (.slice ao kv.length cap) := hgr.cell d0 (by simp)
    obtain ⟨w3, hcp, hss, hb3⟩ := run_copy_strs w2 w.heap.size kv.length kv.length cap ao (keys kv) cur hcur hsz hsl (by simp only [maxLen]; omega) w1 w.heap.size HB.out (Nat.le_refl _)
    have HG := hid hss
    have HB3 := hid hb3
    clear hown hgr hsl hss hb3 hcur d0
    go_wp2
    go_ret
    refine ⟨_, rfl, ?_, ⟨_, _, _, H1.out.same fun k hk => HB3.out.block k (by omega)⟩, HK1.out.trans (Keeps.of_below (hsz1.symm ▸ HB3.out) _)⟩
    exact HG.out
end Go.Proofs.Ybulkehgi.Car
