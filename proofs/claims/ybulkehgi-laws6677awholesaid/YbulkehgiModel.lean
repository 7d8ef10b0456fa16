/-
  zzs6677amodel (f11).
-/
import Derived.Test.YbulkehgiRead
namespace Go.Proofs.Ybulkehgi.Model
open Go.RowKit Fold Strs Spell SM Car Srt Vals ReadF

theorem row_cells {w : World} {B : Nat} {e : TypeId} {v : Value} {xs : List Value} (h : Row w B e v xs) : ∃ ao cap, v = .slice ao xs.length cap ∧ ∀ j (hj : j < xs.length), ∃ g, ao = some ⟨g, 0, none⟩ ∧ w.cell? ⟨g, j, none⟩ = some xs[j] ∧ g < w.heap.size ∧ w.frozen? ⟨g, j, none⟩ = false ∧ B ≤ g := by
  rcases h.form with ⟨rfl, rfl⟩ | ⟨g, cap, cur, rfl, hB, hlt, _⟩
  · exact ⟨none, 0, rfl, fun j hj => by simp at hj⟩
  · exact ⟨_, cap, rfl, fun j hj => ⟨g, rfl, (h.at j hj).1, hlt, (h.at j hj).2, hB⟩⟩

/-- What the model is handed. -/
structure Mod (w : World) (ks vs : Value) (V : List Value) (kv : KV) : Prop where
  rk : SS w 0 ks (keys kv)
  rv : Row w 0 23 vs V
  len : V.length = kv.length
  inn : ∀ i (h : i < kv.length) (h' : i < V.length), Inn w w.heap.size V[i] kv[i].2
  nodup : (keys kv).Nodup
  small : Small kv
  size : ∀ q ∈ keys kv, q.size ≤ 9223372036854775807

def sel (name excl : ByteArray) (ux : Bool) (k : ByteArray) : Bool := spellB k name && !(ux && spellB k excl)
def Kat (kv : KV) (i : Nat) : ByteArray := (keys kv).getD i ⟨#[]⟩
def picks (kv : KV) (name excl : ByteArray) (ux : Bool) (i : Nat) : List Nat := (List.range i).filter fun j => sel name excl ux (Kat kv j)
theorem picks_succ (kv : KV) (name excl : ByteArray) (ux : Bool) (i : Nat) : picks kv name excl ux (i + 1) = if sel name excl ux (Kat kv i) = true then picks kv name excl ux i ++ [i] else picks kv name excl ux i := by
  unfold picks
  rw [List.range_succ, List.filter_append, List.filter_cons, List.filter_nil]
  split
  · rfl
  · rw [List.append_nil]
def ints (l : List Nat) : List Value := l.map fun x : Nat => Value.int .i64 (x : Int)
theorem ints_one (l : List Nat) : ∀ u ∈ ints l, u.oneCell' = true := by
  intro u hu
  obtain ⟨_, _, rfl⟩ := List.mem_map.1 hu
  rfl
theorem picks_len (kv : KV) (name excl : ByteArray) (ux : Bool) (i : Nat) : (picks kv name excl ux i).length ≤ i := by
  unfold picks
  have := List.length_filter_le (fun j => sel name excl ux (Kat kv j)) (List.range i)
  simpa using this

def ModPost (w : World) (vl : VL) (e : Ending) (w' : World) : Prop :=
  ∃ rv, e = .returned rv ∧ SS w' 0 rv (strs vl) ∧ (rv = .slice none 0 0 ↔ vl = none) ∧ Below w.heap.size w w'
def want (kv : KV) (name excl : ByteArray) (ux : Bool) : List ByteArray := if name.size = 0 then [] else (keys kv).filter (sel name excl ux)

structure A (w : World) (kv : KV) (name excl : ByteArray) (ux : Bool) (i : Nat) (iv : Value) (wr : World) : Prop where
  row : Row wr w.heap.size 3 iv (ints (picks kv name excl ux i))
  below : Below w.heap.size w wr

/-! ### The insertion sort -/
theorem less_le {a b : ByteArray} (h : Op.bytesLess a.toList b.toList = true) : le a b := by
  rw [bytesLess_eq, ByteArray.toList_eq, ByteArray.toList_eq, decide_eq_true_eq] at h
  exact List.le_of_lt h
theorem less_ge {a b : ByteArray} (h : Op.bytesLess a.toList b.toList = false) : le b a := by
  rw [bytesLess_eq, ByteArray.toList_eq, ByteArray.toList_eq, decide_eq_false_iff_not] at h
  exact List.not_lt.1 h
theorem le_trans' {a b c : ByteArray} (h : le a b) (k : le b c) : le a c := List.le_trans h k
def at' (kv : KV) (xs : List Nat) (a : Nat) : ByteArray := Kat kv (xs.getD a 0)
def But (kv : KV) (xs : List Nat) (i j : Nat) : Prop := ∀ a b, a < b → b ≤ i → b ≠ j → le (at' kv xs a) (at' kv xs b)
def Upto (kv : KV) (xs : List Nat) (i : Nat) : Prop := ∀ a b, a < b → b < i → le (at' kv xs a) (at' kv xs b)
def swp (xs : List Nat) (m : Nat) : List Nat := (xs.set (m + 1) (xs.getD m 0)).set m (xs.getD (m + 1) 0)
theorem swp_len (xs : List Nat) (m : Nat) : (swp xs m).length = xs.length := by simp [swp]
theorem swp_at (xs : List Nat) (m a : Nat) (h : m + 1 < xs.length) : (swp xs m).getD a 0 = if a = m then xs.getD (m + 1) 0 else if a = m + 1 then xs.getD m 0 else xs.getD a 0 := by
  unfold swp
  simp only [List.getD, List.getElem?_set, List.length_set]
  by_cases h1 : a = m
  · subst h1
    rw [if_pos rfl, if_pos rfl, if_pos (by omega)]
    rfl
  · rw [if_neg (fun e => h1 e.symm), if_neg h1]
    by_cases h2 : a = m + 1
    · subst h2
      rw [if_pos rfl, if_pos rfl, if_pos (by omega)]
      rfl
    · rw [if_neg (fun e => h2 e.symm), if_neg h2]
theorem swp_perm (xs : List Nat) (m : Nat) (h : m + 1 < xs.length) : (swp xs m).Perm xs := by
  have h1 : xs.getD m 0 = xs[m] := by simp [List.getD, show m < xs.length by omega]
  have h2 : xs.getD (m + 1) 0 = xs[m + 1] := by simp [List.getD, h]
  unfold swp
  rw [h1, h2]
  exact List.set_set_perm h (by omega)
theorem But.start {kv : KV} {xs : List Nat} {i : Nat} (h : Upto kv xs i) : But kv xs i i := fun a b h1 h2 h3 => h a b h1 (by omega)
theorem But.stop0 {kv : KV} {xs : List Nat} {i : Nat} (h : But kv xs i 0) : Upto kv xs (i + 1) := fun a b h1 h2 => h a b h1 (by omega) (by omega)
theorem But.stop {kv : KV} {xs : List Nat} {i m : Nat} (h : But kv xs i (m + 1)) (hm : m + 1 ≤ i) (hl : Op.bytesLess (at' kv xs (m + 1)).toList (at' kv xs m).toList = false) : Upto kv xs (i + 1) := by
  intro a b h1 h2
  by_cases e : b = m + 1
  · subst e
    by_cases e2 : a = m
    · subst e2; exact less_ge hl
    · exact le_trans' (h a m (by omega) (by omega) (by omega)) (less_ge hl)
  · exact h a b h1 (by omega) e
theorem But.swap {kv : KV} {xs : List Nat} {i m : Nat} (h : But kv xs i (m + 1)) (hm : m + 1 ≤ i) (hi : i < xs.length) (hl : Op.bytesLess (at' kv xs (m + 1)).toList (at' kv xs m).toList = true) : But kv (swp xs m) i m := by
  have e : ∀ a, at' kv (swp xs m) a = if a = m then at' kv xs (m + 1) else if a = m + 1 then at' kv xs m else at' kv xs a := fun a => by
    unfold at'
    rw [swp_at xs m a (by omega)]
    split
    · rfl
    · split <;> rfl
  intro a b h1 h2 h3
  rw [e a, e b, if_neg h3]
  by_cases eb : b = m + 1
  · subst eb
    rw [if_pos rfl]
    by_cases ea : a = m
    · rw [if_pos ea]; exact less_le hl
    · rw [if_neg ea, if_neg (by omega)]; exact h a m (by omega) (by omega) (by omega)
  · rw [if_neg eb]
    by_cases ea : a = m
    · rw [if_pos ea]; exact h (m + 1) b (by omega) h2 eb
    · rw [if_neg ea]
      by_cases ea2 : a = m + 1
      · rw [if_pos ea2]; exact h m b (by omega) h2 eb
      · rw [if_neg ea2]; exact h a b h1 h2 eb

/-- The row iv holds the picked places in some order xs, of which R is known. -/
structure In (w : World) (P : List Nat) (iv : Value) (R : List Nat → Prop) (wr : World) : Prop where
  ex : ∃ xs, Row wr w.heap.size 3 iv (ints xs) ∧ xs.Perm P ∧ R xs
  below : Below w.heap.size w wr

theorem In.drewN {w wr : World} {P : List Nat} {iv : Value} {R : List Nat → Prop} (h : In w P iv R wr) (n : Nat) : In w P iv R (wr.drewN n) := by
  have hb : Below wr.heap.size wr (wr.drewN n) := below_drewN (Below.refl _ _) n
  refine ⟨?_, h.below.trans (hb.mono h.below.size)⟩
  obtain ⟨xs, a, b, c⟩ := h.ex
  exact ⟨xs, a.beyond hb, b, c⟩

theorem ints_at (xs : List Nat) (j : Nat) (h : j < (ints xs).length) : (ints xs)[j] = .int .i64 ((xs.getD j 0 : Nat) : Int) := by
  have h' : j < xs.length := by simpa [ints] using h
  simp [ints, List.getD, h']
theorem ints_swp (xs : List Nat) (m : Nat) : ints (swp xs m) = ((ints xs).set (m + 1) (.int .i64 ((xs.getD m 0 : Nat) : Int))).set m (.int .i64 ((xs.getD (m + 1) 0 : Nat) : Int)) := by
  simp [ints, swp]
theorem key_cell {w wr : World} {aok : Option Addr} {kv : KV} (h : ∀ (j : Nat) (hj : j < ((keys kv).map Value.string).length), ∃ g, aok = some ⟨g, 0, none⟩ ∧ w.cell? ⟨g, j, none⟩ = some (((keys kv).map Value.string)[j]) ∧ g < w.heap.size ∧ w.frozen? ⟨g, j, none⟩ = false ∧ 0 ≤ g) (hb : Below w.heap.size w wr) (x : Nat) (hx : x < kv.length) :
    ∃ g, aok = some ⟨g, 0, none⟩ ∧ wr.cell? ⟨g, x, none⟩ = some (.string (Kat kv x)) ∧ g < w.heap.size := by
  have hjk : x < (keys kv).length := by simpa [keys] using hx
  obtain ⟨g, h1, h2, h3, _⟩ := h x (by rw [List.length_map]; exact hjk)
  refine ⟨g, h1, ?_, h3⟩
  rw [hb.cell h3, h2]
  simp [Kat, List.getD, List.getElem?_eq_getElem hjk]

theorem In.swapped {w wr : World} {P : List Nat} {gi n ci : Nat} {kv : KV} {xs : List Nat} {i m x y : Nat} (hrow : Row wr w.heap.size 3 (.slice (some ⟨gi, 0, none⟩) n ci) (ints xs)) (hp : xs.Perm P) (hb : But kv xs i (m + 1)) (hbel : Below w.heap.size w wr) (hm : m + 1 ≤ i) (hi : i < xs.length) (ex : xs.getD (m + 1) 0 = x) (ey : xs.getD m 0 = y)
    (hl : Op.bytesLess (Kat kv x).toList (Kat kv y).toList = true) (q : Nat) : In w P (.slice (some ⟨gi, 0, none⟩) n ci) (fun xs => But kv xs i m) (((wr.drewN q).setCell ⟨gi, m + 1, none⟩ (.int .i64 (y : Int))).setCell ⟨gi, m, none⟩ (.int .i64 (x : Int))) := by
  have hb0 : Below wr.heap.size wr (wr.drewN q) := below_drewN (Below.refl _ _) q
  have hge : w.heap.size ≤ gi := (hrow.lt (k := gi) rfl).1
  refine ⟨⟨swp xs m, ?_, (swp_perm xs m (by omega)).trans hp, hb.swap hm hi (by unfold at'; rw [ex, ey]; exact hl)⟩, ((hbel.trans (hb0.mono hbel.size)).setCell (by exact hge) _).setCell (by exact hge) _⟩
  rw [ints_swp, ex, ey]
  exact ((hrow.beyond hb0).set (m + 1) _).set m _

theorem keys_range (kv : KV) : keys kv = (List.range kv.length).map (Kat kv) := by
  apply List.ext_getElem?
  intro i
  by_cases h : i < kv.length
  · have hk : i < (keys kv).length := by simpa [keys] using h
    rw [List.getElem?_eq_getElem hk, List.getElem?_map, List.getElem?_range h]
    simp [Kat, List.getD, List.getElem?_eq_getElem hk]
  · rw [List.getElem?_eq_none (by simpa [keys] using h), List.getElem?_eq_none (by simpa using h)]
theorem picks_keys (kv : KV) (name excl : ByteArray) (ux : Bool) : (picks kv name excl ux kv.length).map (Kat kv) = (keys kv).filter (sel name excl ux) := by
  rw [keys_range, List.filter_map]
  rfl
theorem get_at {kv : KV} (hn : (keys kv).Nodup) (x : Nat) (hx : x < kv.length) : SM.get kv (Kat kv x) = some kv[x].2 := by
  refine get_of_mem hn ?_
  have : Kat kv x = kv[x].1 := by simp [Kat, List.getD, keys, hx]
  rw [this]
  exact List.getElem_mem hx
theorem resOf_many (kv : KV) (F : List ByteArray) (h : 2 ≤ F.length) : resOf kv F = if many kv F = [] then none else some (many kv F) := by
  match F, h with
  | a :: b :: r, _ => rfl
/-- What the places in sorted order come to. -/
structure Done (kv : KV) (F : List ByteArray) (xs : List Nat) (P : List Nat) : Prop where
  perm : xs.Perm P
  lt : ∀ a, a < xs.length → xs.getD a 0 < kv.length
  srt : Srt.srt F = xs.map (Kat kv)
  len : F.length = xs.length
theorem Done.of {kv : KV} {name excl : ByteArray} {ux : Bool} {xs P : List Nat} (hP : picks kv name excl ux kv.length = P) (hp : xs.Perm P) (hu : Upto kv xs xs.length) : Done kv ((keys kv).filter (sel name excl ux)) xs P := by
  have h1 : ((keys kv).filter (sel name excl ux)).Perm (xs.map (Kat kv)) := by
    rw [← picks_keys, hP]
    exact (hp.map _).symm
  refine ⟨hp, fun a ha => ?_, srt_eq h1 ?_, by rw [h1.length_eq, List.length_map]⟩
  · have : xs.getD a 0 ∈ P := hp.mem_iff.1 (by simp [List.getD, ha])
    rw [← hP] at this
    exact List.mem_range.1 (List.mem_filter.1 this).1
  · rw [List.pairwise_iff_getElem]
    intro i j hi hj hij
    rw [List.length_map] at hi hj
    have := hu i j hij hj
    simpa [at', List.getD, hi, hj] using this

theorem Done.single {kv : KV} {F : List ByteArray} {xs P : List Nat} (h : Done kv F xs P) (hn : (keys kv).Nodup) (h1 : xs.length = 1) (hx : xs.getD 0 0 < kv.length) : resOf kv F = kv[xs.getD 0 0].2 := by
  have hsrt := h.srt
  have hFl : F.length = 1 := by rw [h.len, h1]
  clear h
  match xs, F, h1, hFl, hsrt with
  | [x], [k], _, _, hsrt =>
    have e : Srt.srt [k] = [k] := List.perm_singleton.1 (srt_perm [k])
    rw [e] at hsrt
    simp only [List.map_cons, List.map_nil, List.cons.injEq, and_true] at hsrt
    show (SM.get kv k).getD none = _
    rw [hsrt, get_at hn x hx]
    rfl

set_option maxRecDepth 100000 in
set_option maxHeartbeats 2000000 in
theorem model_any (w : World) (ks vs : Value) (V : List Value) (kv : KV) (name excl : ByteArray) (ux : Bool) (h : Mod w ks vs V kv) :
    Calls Yba.prog 11 #[ks, vs, .string name, .string excl, .bool ux] w (ModPost w (resOf kv (want kv name excl ux))) := by
  obtain ⟨i3, hi3, hz30, hz31, hz32⟩ := info_parts Yba.rowInfo3
  obtain ⟨i9, hi9, hz90, hz91, hz92⟩ := info_parts Yba.rowInfo9
  obtain ⟨aok, capk, rfl, hck⟩ := row_cells h.rk.row
  obtain ⟨aov, capv, rfl, hcv⟩ := row_cells h.rv
  have hkl : (keys kv).length = kv.length := by simp [keys]
  have hs1 := h.small.1
  rw [List.length_map, hkl]
  rw [h.len]
  have HCK := hid hck
  have HCV := hid hcv
  have HKL := hid hkl
  have H := hid h
  clear hck hcv hkl h
  by_cases h0 : name.size = 0
  · have e : resOf kv (want kv name excl ux) = none := by unfold want; rw [if_pos h0]; rfl
    rw [e]
    clear e
    go_enter Yba.func11, Yba.ntmps11
    go_wp2
    go_ret
    exact ⟨_, rfl, Row.nil _ _ _, by simp, Below.refl _ _⟩
  · have t0 : ((name.size : Int) == 0) = false := by
      rw [beq_eq_false_iff_ne]
      omega
    go_enter Yba.func11, Yba.ntmps11
    go_wp2
    go_loopw [11, 12] (fun iv i wr => ∃ j : Nat, j ≤ kv.length ∧ i = .int .i64 j ∧ A w kv name excl ux j iv wr) (fun _ i _ => kv.length - (intOf i).toNat)
    case atStart => exact ⟨0, Nat.zero_le _, rfl, ⟨Row.nil _ _ _, Below.refl _ _⟩⟩
    case round =>
      obtain ⟨j, hj, rfl, hA⟩ := hrel
      by_cases hlt : j < kv.length
      · have hjk : j < (keys kv).length := by have := HKL.out; omega
        obtain ⟨g, rfl, hcj, hgl, _⟩ := HCK.out j (by rw [List.length_map]; exact hjk)
        have cj : wr.cell? ⟨g, j, none⟩ = some (.string (Kat kv j)) := by
          rw [hA.below.cell hgl, hcj]
          simp [Kat, List.getD, List.getElem?_eq_getElem hjk]
        have hqz : (Kat kv j).size ≤ 9223372036854775807 := by
          have := H.out.size (keys kv)[j] (List.getElem_mem hjk)
          simpa [Kat, List.getD, List.getElem?_eq_getElem hjk] using this
        have hpl := picks_len kv name excl ux j
        cases e1 : spellB (Kat kv j) name with
        | false =>
          have hps : picks kv name excl ux (j + 1) = picks kv name excl ux j := by
            rw [picks_succ, if_neg (by unfold sel; rw [e1]; simp)]
          have HPS := hid hps
          have HA := hid hA
          clear hps hA hcj
          go_wp2_with fail
          refine (fold_any (Kat kv j) name wr hqz).mono ?_
          rintro e w1 ⟨rfl, hd⟩
          rw [e1]
          have hA1 : A w kv name excl ux (j + 1) u11 w1 := ⟨by rw [HPS.out]; exact HA.out.row.beyond (hd.below _), HA.out.below.trans (hd.below _)⟩
          have HA1 := hid hA1
          clear hd hA1 e1 cj
          go_wp2
          go_roundw
          case rel => exact ⟨j + 1, by omega, by go_num, HA1.out⟩
          case measure => simp [intOf]; omega
        | true =>
          have hsz1 : w.heap.size ≤ wr.heap.size := hA.below.size
          cases ux with
          | false =>
            have hps : picks kv name excl false (j + 1) = picks kv name excl false j ++ [j] := by
              rw [picks_succ, if_pos (by unfold sel; rw [e1]; simp)]
            have HPS := hid hps
            have HA := hid hA
            obtain ⟨ai, ni, ci, rfl⟩ := slice_of_row hA.row
            clear hps hA hcj
            go_wp2_with fail
            refine (fold_any (Kat kv j) name wr hqz).mono ?_
            rintro e w1 ⟨rfl, hd⟩
            rw [e1]
            have hA1 : Row (w1.alloc (.cells #[.int .i64 (j : Int)] 3)) w.heap.size 3 (.slice ai ni ci) (ints (picks kv name excl false j)) := (HA.out.row.beyond (hd.below _)).beyond ((Below.refl _ w1).alloc (Nat.le_refl _) _)
            have hone : Row (w1.alloc (.cells #[.int .i64 (j : Int)] 3)) 0 3 (.slice (some ⟨w1.heap.size, 0, none⟩) 1 1) (ints [j]) := Row.lit w1 0 3 #[.int .i64 (j : Int)] (Nat.zero_le _) (by simp [maxLen])
            have hb1 : (ints (picks kv name excl false j)).length + (ints [j]).length ≤ maxLen := by simp only [ints, List.length_map, maxLen, List.length_singleton]; omega
            have hb2 : ((ints (picks kv name excl false j)).length + (ints [j]).length) * 8 ≤ 140737488355328 := by simp only [ints, List.length_map, List.length_singleton]; omega
            have hb3 : w.heap.size ≤ (w1.alloc (.cells #[.int .i64 (j : Int)] 3)).heap.size := by have := hd.heap; simp [this]; omega
            have hbl : Below w.heap.size w (w1.alloc (.cells #[.int .i64 (j : Int)] 3)) := (HA.out.below.trans (hd.below _)).alloc (by rw [hd.heap]; exact hsz1) _
            have HR1 := hid hA1
            have HO1 := hid hone
            have HB1 := hid hb1
            have HB2 := hid hb2
            have HB3 := hid hb3
            have HBL := hid hbl
            clear hd hA1 e1 cj hone hb1 hb2 hb3 hbl
            go_wp2_with (at_builtin; refine wpList_app rfl _ _ 58 rfl w.heap.size 3 i3 _ 8 Yba.underlying58 hi3 hz30 hz31 hz32 rfl (.slice ai ni ci) (.slice (some ⟨w1.heap.size, 0, none⟩) 1 1) rfl rfl _ _ HR1.out HO1.out (ints_one _) HB1.out HB2.out HB3.out ?_)
            intro v4 w4 hr hg hnil _
            have hA4 : A w kv name excl false (j + 1) v4 w4 := ⟨by rw [HPS.out]; unfold ints at hr ⊢; rw [List.map_append]; exact hr, HBL.out.grown hg HB3.out fun k hk => (HR1.out.lt hk).1⟩
            have HA4 := hid hA4
            clear hr hg hnil hA4
            go_wp2
            go_roundw
            case rel => exact ⟨j + 1, by omega, by go_num, HA4.out⟩
            case measure => simp [intOf]; omega
          | true =>
            cases e2 : spellB (Kat kv j) excl with
            | false =>
              have hps : picks kv name excl true (j + 1) = picks kv name excl true j ++ [j] := by
                rw [picks_succ, if_pos (by unfold sel; rw [e1, e2]; simp)]
              have HPS := hid hps
              have HA := hid hA
              obtain ⟨ai, ni, ci, rfl⟩ := slice_of_row hA.row
              clear hps hA hcj
              go_wp2_with fail
              refine (fold_any (Kat kv j) name wr hqz).mono ?_
              rintro e w0 ⟨rfl, hd0⟩
              rw [e1]
              have c0 : w0.cell? ⟨g, j, none⟩ = some (.string (Kat kv j)) := (Drawn.cell hd0 _).trans cj
              clear e1 cj
              have HD0 := hid hd0
              clear hd0
              go_wp2_with fail
              refine (fold_any (Kat kv j) excl w0 hqz).mono ?_
              rintro e w1 ⟨rfl, hd1⟩
              rw [e2]
              have hd : Drawn wr w1 := by
                obtain ⟨x, hx⟩ := HD0.out
                subst hx
                obtain ⟨y, hy⟩ := hd1
                subst hy
                exact (Drawn.refl wr).more x |>.more y
              have hA1 : Row (w1.alloc (.cells #[.int .i64 (j : Int)] 3)) w.heap.size 3 (.slice ai ni ci) (ints (picks kv name excl true j)) := (HA.out.row.beyond (hd.below _)).beyond ((Below.refl _ w1).alloc (Nat.le_refl _) _)
              have hone : Row (w1.alloc (.cells #[.int .i64 (j : Int)] 3)) 0 3 (.slice (some ⟨w1.heap.size, 0, none⟩) 1 1) (ints [j]) := Row.lit w1 0 3 #[.int .i64 (j : Int)] (Nat.zero_le _) (by simp [maxLen])
              have hb1 : (ints (picks kv name excl true j)).length + (ints [j]).length ≤ maxLen := by simp only [ints, List.length_map, maxLen, List.length_singleton]; omega
              have hb2 : ((ints (picks kv name excl true j)).length + (ints [j]).length) * 8 ≤ 140737488355328 := by simp only [ints, List.length_map, List.length_singleton]; omega
              have hb3 : w.heap.size ≤ (w1.alloc (.cells #[.int .i64 (j : Int)] 3)).heap.size := by have := hd.heap; simp [this]; omega
              have hbl : Below w.heap.size w (w1.alloc (.cells #[.int .i64 (j : Int)] 3)) := (HA.out.below.trans (hd.below _)).alloc (by rw [hd.heap]; exact hsz1) _
              have HR1 := hid hA1
              have HO1 := hid hone
              have HB1 := hid hb1
              have HB2 := hid hb2
              have HB3 := hid hb3
              have HBL := hid hbl
              clear hd hd1 hA1 e2 c0 hone hb1 hb2 hb3 hbl
              go_wp2_with (at_builtin; refine wpList_app rfl _ _ 58 rfl w.heap.size 3 i3 _ 8 Yba.underlying58 hi3 hz30 hz31 hz32 rfl (.slice ai ni ci) (.slice (some ⟨w1.heap.size, 0, none⟩) 1 1) rfl rfl _ _ HR1.out HO1.out (ints_one _) HB1.out HB2.out HB3.out ?_)
              intro v4 w4 hr hg hnil _
              have hA4 : A w kv name excl true (j + 1) v4 w4 := ⟨by rw [HPS.out]; unfold ints at hr ⊢; rw [List.map_append]; exact hr, HBL.out.grown hg HB3.out fun k hk => (HR1.out.lt hk).1⟩
              have HA4 := hid hA4
              clear hr hg hnil hA4
              go_wp2
              go_roundw
              case rel => exact ⟨j + 1, by omega, by go_num, HA4.out⟩
              case measure => simp [intOf]; omega
            | true =>
              have hps : picks kv name excl true (j + 1) = picks kv name excl true j := by
                rw [picks_succ, if_neg (by unfold sel; rw [e1, e2]; simp)]
              have HPS := hid hps
              have HA := hid hA
              clear hps hA hcj
              go_wp2_with fail
              refine (fold_any (Kat kv j) name wr hqz).mono ?_
              rintro e w0 ⟨rfl, hd0⟩
              rw [e1]
              have c0 : w0.cell? ⟨g, j, none⟩ = some (.string (Kat kv j)) := (Drawn.cell hd0 _).trans cj
              have HD0 := hid hd0
              clear e1 cj hd0
              go_wp2_with fail
              refine (fold_any (Kat kv j) excl w0 hqz).mono ?_
              rintro e w1 ⟨rfl, hd1⟩
              rw [e2]
              have hA1 : A w kv name excl true (j + 1) u11 w1 := ⟨by rw [HPS.out]; exact (HA.out.row.beyond (HD0.out.below _)).beyond (hd1.below _), (HA.out.below.trans (HD0.out.below _)).trans (hd1.below _)⟩
              have HA1 := hid hA1
              clear hd1 hA1 e2 c0
              go_wp2
              go_roundw
              case rel => exact ⟨j + 1, by omega, by go_num, HA1.out⟩
              case measure => simp [intOf]; omega
      · obtain rfl : j = kv.length := by omega
        obtain ⟨P, hP⟩ : ∃ P, picks kv name excl ux kv.length = P := ⟨_, rfl⟩
        have hrow := hA.row
        rw [hP] at hrow
        have hPlt : ∀ x ∈ P, x < kv.length := fun x hx => by
          rw [← hP] at hx
          exact List.mem_range.1 (List.mem_filter.1 hx).1
        have hPn : P.length ≤ 4096 := by rw [← hP]; exact Nat.le_trans (picks_len ..) hs1
        have hB0 : In w P u11 (fun xs => Upto kv xs 1) wr := ⟨⟨P, hrow, List.Perm.refl _, fun a b h1 h2 => by omega⟩, hA.below⟩
        obtain ⟨ai, ci, rfl, _⟩ := row_cells hrow
        have hil : (ints P).length = P.length := by simp [ints]
        rw [hil]
        rw [hil] at hB0
        have HB0 := hid hB0
        have HP := hid hP
        have HPL := hid hPlt
        clear hB0 hP hPlt hrow hA hil
        go_wp2
        go_loopw [13] (fun i wr => ∃ j : Nat, 1 ≤ j ∧ (j ≤ P.length ∨ j = 1) ∧ i = .int .i64 j ∧ In w P (.slice ai P.length ci) (fun xs => Upto kv xs j) wr) (fun i _ => P.length - (intOf i).toNat)
        case atStart => exact ⟨1, by omega, .inr rfl, rfl, HB0.out⟩
        case round =>
          obtain ⟨i, hi1, hi2, rfl, hIn⟩ := hrel
          by_cases hlt : i < P.length
          · have HIN := hid hIn
            clear hIn
            go_wp2
            go_loopw [14] (fun jv wr => ∃ q : Nat, q ≤ i ∧ jv = .int .i64 q ∧ In w P (.slice ai P.length ci) (fun xs => But kv xs i q) wr) (fun jv _ => (intOf jv).toNat)
            case atStart => exact ⟨i, Nat.le_refl _, rfl, ⟨by obtain ⟨xs, a, b, c⟩ := HIN.out.ex; exact ⟨xs, a, b, But.start c⟩, HIN.out.below⟩⟩
            case round =>
              obtain ⟨q, hq, rfl, hIn⟩ := hrel
              cases q with
              | zero =>
                have hn1 : In w P (.slice ai P.length ci) (fun xs => Upto kv xs (i + 1)) wr := ⟨by obtain ⟨xs, a, b, c⟩ := hIn.ex; exact ⟨xs, a, b, But.stop0 c⟩, hIn.below⟩
                have HN1 := hid hn1
                clear hn1 hIn
                go_wp2
                go_quiet (fail)
                go_wp2
                exact ⟨⟨i + 1, by omega, .inl (by omega), by go_num, HN1.out.drewN _⟩, by simp [intOf]; omega⟩
              | succ m =>
                obtain ⟨⟨xs, hrow, hperm, hbut⟩, hbel⟩ := hIn
                have hxl : xs.length = P.length := hperm.length_eq
                have hil : (ints xs).length = xs.length := by simp [ints]
                obtain ⟨ai', ci', eai, hcells⟩ := row_cells hrow
                obtain ⟨rfl, _, rfl⟩ : ai' = ai ∧ (ints xs).length = P.length ∧ ci' = ci := by injection eai with h1 h2 h3; exact ⟨h1.symm, h2.symm, h3.symm⟩
                obtain ⟨gi, rfl, hc1, hgl, hf1, hgB⟩ := hcells (m + 1) (by omega)
                obtain ⟨g', eg, hc0, _, hf0, _⟩ := hcells m (by omega)
                obtain rfl : gi = g' := by injection eg with e; injection e
                rw [ints_at] at hc1 hc0
                have hxm : ∀ a, a < xs.length → xs.getD a 0 < kv.length := fun a ha => HPL.out _ (hperm.mem_iff.1 (by simp [List.getD, ha]))
                have hx := hxm (m + 1) (by omega)
                have hy := hxm m (by omega)
                obtain ⟨gk, rfl, kx, hgk⟩ := key_cell HCK.out hbel _ hx
                obtain ⟨gk', ek, ky, _⟩ := key_cell HCK.out hbel _ hy
                obtain rfl : gk = gk' := by injection ek with e; injection e
                have HROW := hid hrow
                have HPERM := hid hperm
                have HBUT := hid hbut
                have HBEL := hid hbel
                obtain ⟨x, ex⟩ : ∃ x, xs.getD (m + 1) 0 = x := ⟨_, rfl⟩
                obtain ⟨y, ey⟩ : ∃ y, xs.getD m 0 = y := ⟨_, rfl⟩
                rw [ex] at hc1 hx kx
                rw [ey] at hc0 hy ky
                have EX := hid ex
                have EY := hid ey
                clear hrow hperm hbut hbel hcells hxm ek eg eai ex ey hil
                cases hbl : Op.bytesLess (Kat kv x).toList (Kat kv y).toList with
                | true =>
                  go_wp2
                  go_quiet (fail)
                  go_wp2
                  exact ⟨⟨m, by omega, rfl, In.swapped HROW.out HPERM.out HBUT.out HBEL.out hq (by omega) EX.out EY.out hbl _⟩, by simp [intOf]⟩
                | false =>
                  have hn1 : In w P (.slice (some ⟨gi, 0, none⟩) P.length ci') (fun xs => Upto kv xs (i + 1)) wr := ⟨⟨xs, HROW.out, HPERM.out, HBUT.out.stop hq (by unfold at'; rw [EX.out, EY.out]; exact hbl)⟩, HBEL.out⟩
                  have HN1 := hid hn1
                  clear hn1
                  go_wp2
                  go_quiet (fail)
                  go_wp2
                  exact ⟨⟨i + 1, by omega, .inl (by omega), by go_num, HN1.out.drewN _⟩, by simp [intOf]; omega⟩
          · obtain ⟨⟨xs, hrow, hperm, hup⟩, hbel⟩ := hIn
            have hxl : xs.length = P.length := hperm.length_eq
            have hdone := Done.of HP.out hperm (fun a b h1 h2 => hup a b h1 (by omega))
            have hwant : want kv name excl ux = (keys kv).filter (sel name excl ux) := by unfold want; rw [if_neg h0]
            obtain ⟨F, hF⟩ : ∃ F, (keys kv).filter (sel name excl ux) = F := ⟨_, rfl⟩
            rw [hF] at hdone hwant
            have HW := hid hwant
            have HD := hid hdone
            have HROW := hid hrow
            have HBEL := hid hbel
            clear hdone hwant hF hrow hbel hperm hup hi2 hi1
            by_cases hz : P.length = 0
            · have hF0 : F = [] := List.eq_nil_of_length_eq_zero (by rw [HD.out.len, hxl, hz])
              have t1 : ((P.length : Int) == 0) = true := by rw [hz]; rfl
              go_wp2
              go_ret
              rw [HW.out, hF0]
              exact ⟨_, rfl, Row.nil _ _ _, by simp [resOf], HBEL.out⟩
            · have t1 : ((P.length : Int) == 0) = false := by rw [beq_eq_false_iff_ne]; omega
              obtain ⟨ai', ci', eai, hcells⟩ := row_cells HROW.out
              obtain ⟨rfl, hil, rfl⟩ : ai' = ai ∧ (ints xs).length = P.length ∧ ci' = ci := by injection eai with h1 h2 h3; exact ⟨h1.symm, h2.symm, h3.symm⟩
              clear eai
              by_cases h1 : P.length = 1
              · have t2 : ((P.length : Int) == 1) = true := by rw [h1]; rfl
                obtain ⟨gi, rfl, hc0, _⟩ := hcells 0 (by omega)
                rw [ints_at] at hc0
                have hx := HD.out.lt 0 (by omega)
                obtain ⟨gv, rfl, hv0, hgv, _⟩ := HCV.out (xs.getD 0 0) (by rw [H.out.len]; exact hx)
                have hvr : wr.cell? ⟨gv, xs.getD 0 0, none⟩ = some (V[xs.getD 0 0]'(by rw [H.out.len]; exact hx)) := (HBEL.out.cell hgv).trans hv0
                have hinn := H.out.inn (xs.getD 0 0) hx (by rw [H.out.len]; exact hx)
                have hres : resOf kv F = kv[xs.getD 0 0].2 := by
                  exact HD.out.single H.out.nodup (by omega) hx
                have HI := hid hinn
                have HRES := hid hres
                clear hcells hv0 hinn hres
                obtain ⟨x, ex⟩ : ∃ x, xs.getD 0 0 = x := ⟨_, rfl⟩
                simp only [ex] at hc0 hvr hx HI HRES
                go_wp2
                go_ret
                rw [HW.out, HRES.out]
                exact ⟨_, rfl, HI.out.row.row.same fun k hk => HBEL.out.block k (HI.out.lt k hk), HI.out.isNil, HBEL.out⟩
              · have t2 : ((P.length : Int) == 1) = false := by rw [beq_eq_false_iff_ne]; omega
                obtain ⟨w2, ew⟩ : ∃ w2, w2 = wr := ⟨_, rfl⟩
                subst ew
                obtain ⟨L, hL⟩ : ∃ L, xs.map (Kat kv) = L := ⟨_, rfl⟩
                have hLl : L.length = P.length := by rw [← hL, List.length_map, hxl]
                have hres : resOf kv F = if (L.flatMap fun q => strs ((SM.get kv q).getD none)) = [] then none else some (L.flatMap fun q => strs ((SM.get kv q).getD none)) := by
                  rw [resOf_many kv F (by rw [HD.out.len]; omega)]
                  unfold many
                  rw [HD.out.srt, hL]
                have hLat : ∀ j (hj : j < L.length), L[j] = Kat kv (xs.getD j 0) := fun j hj => by
                  subst hL
                  have hj' : j < xs.length := by simpa using hj
                  simp [List.getD, hj']
                have HRES := hid hres
                have HLA := hid hLat
                have HCE := hid hcells
                have hbs := HBEL.out.size
                clear hres hLat hL hcells
                go_wp2
                go_loopw [16, 17] (fun vv i w' => ∃ j : Nat, j ≤ P.length ∧ i = .int .i64 j ∧ Vals.Loop w2 kv L j vv w') (fun _ i _ => P.length - (intOf i).toNat)
                case atStart => exact ⟨0, Nat.zero_le _, rfl, Vals.Loop.start w2 kv L⟩
                case round =>
                  obtain ⟨j, hj, rfl, hlp⟩ := hrel
                  have HLP := hid hlp
                  obtain ⟨ao2, nv, cv, rfl⟩ := slice_of_row hlp.row
                  by_cases hjl : j < P.length
                  · obtain ⟨gi, rfl, hc0, hgl, _⟩ := HCE.out j (by omega)
                    rw [ints_at] at hc0
                    have hx := HD.out.lt j (by omega)
                    obtain ⟨gv, rfl, hv0, hgv, _⟩ := HCV.out (xs.getD j 0) (by rw [H.out.len]; exact hx)
                    have hLj : j < L.length := by omega
                    have hvl : SM.get kv L[j] = some kv[xs.getD j 0].2 := by rw [HLA.out j hLj]; exact get_at H.out.nodup _ hx
                    have hvs : (strs kv[xs.getD j 0].2).length ≤ 65536 := H.out.small.2 _ (List.getElem_mem hx)
                    have hinn := H.out.inn (xs.getD j 0) hx (by rw [H.out.len]; exact hx)
                    have ci0 : wr.cell? ⟨gi, j, none⟩ = some (.int .i64 ((xs.getD j 0 : Nat) : Int)) := (hlp.below.cell hgl).trans hc0
                    have cv0 : wr.cell? ⟨gv, xs.getD j 0, none⟩ = some (V[xs.getD j 0]'(by rw [H.out.len]; exact hx)) := (hlp.below.cell (Nat.lt_of_lt_of_le hgv hbs)).trans ((HBEL.out.cell hgv).trans hv0)
                    have hll := hlp.len
                    have hsz := hlp.below.size
                    have hrv : Row wr w2.heap.size 9 (.slice ao2 nv cv) (((L.take j).flatMap fun q => strs ((SM.get kv q).getD none)).map Value.string) := hlp.row
                    have hxv : Row wr 0 9 (V[xs.getD j 0]'(by rw [H.out.len]; exact hx)) ((strs kv[xs.getD j 0].2).map Value.string) := hinn.row.row.same fun k hk => (hlp.below.block k (by have := hinn.lt k hk; omega)).trans (HBEL.out.block k (hinn.lt k hk))
                    have h1c4 := cells_strs (strs kv[xs.getD j 0].2)
                    have hc1 : (((L.take j).flatMap fun q => strs ((SM.get kv q).getD none)).map Value.string).length + ((strs kv[xs.getD j 0].2).map Value.string).length ≤ maxLen := by simp only [List.length_map, maxLen]; omega
                    have hc2 : ((((L.take j).flatMap fun q => strs ((SM.get kv q).getD none)).map Value.string).length + ((strs kv[xs.getD j 0].2).map Value.string).length) * 16 ≤ 140737488355328 := by simp only [List.length_map]; omega
                    have HRV := hid hrv
                    have HXV := hid hxv
                    have HC1 := hid hc1
                    have HC2 := hid hc2
                    have H1C := hid h1c4
                    have HVL := hid hvl
                    have HVS := hid hvs
                    obtain ⟨Vx, hVx⟩ : ∃ Vx, (V[xs.getD j 0]'(by rw [H.out.len]; exact hx)) = Vx := ⟨_, rfl⟩
                    rw [hVx] at cv0 HXV
                    obtain ⟨vl, hvl0⟩ : ∃ vl, kv[xs.getD j 0].2 = vl := ⟨_, rfl⟩
                    rw [hvl0] at HXV HC1 HC2 H1C HVL HVS
                    obtain ⟨x, ex⟩ : ∃ x, xs.getD j 0 = x := ⟨_, rfl⟩
                    rw [ex] at cv0 ci0 hx
                    clear hlp hrv hxv hc1 hc2 h1c4 hvl hvs hc0 hv0 hinn hvl0 hVx ex hll
                    go_wp2_with (at_builtin; refine wpList_app rfl _ _ 23 rfl w2.heap.size 9 i9 _ 16 Yba.underlying23 hi9 hz90 hz91 hz92 rfl (.slice ao2 nv cv) Vx rfl rfl _ _ HRV.out HXV.out H1C.out HC1.out HC2.out hsz ?_)
                    intro v4 w4 hr hg hnil _
                    have HL4 := hid (HLP.out.step hLj HVL.out HVS.out (Below.refl _ _) hr hg (by rw [hnil]; simp))
                    clear hr hg hnil
                    go_wp2
                    go_roundw
                    case rel => exact ⟨j + 1, by omega, by go_num, HL4.out⟩
                    case measure => simp [intOf]; omega
                  · obtain rfl : j = P.length := by omega
                    clear hlp
                    go_wp2
                    go_ret
                    have h := HLP.out
                    have ht : L.take P.length = L := List.take_of_length_le (by omega)
                    have hrw := h.row
                    have hnl := h.isNil
                    rw [ht] at hrw hnl
                    have hst : strs (resOf kv F) = L.flatMap fun q => strs ((SM.get kv q).getD none) := by
                      rw [HRES.out]
                      split
                      · rename_i h; rw [h]; rfl
                      · rfl
                    rw [HW.out]
                    refine ⟨.slice ao2 nv cv, rfl, ?_, ?_, HBEL.out.trans (h.below.mono hbs)⟩
                    · rw [hst]; exact hrw.row.mono (Nat.zero_le _)
                    · rw [hnl, HRES.out]
                      split
                      · rename_i h; simp [h]
                      · rename_i h; simp [h]
end Go.Proofs.Ybulkehgi.Model
