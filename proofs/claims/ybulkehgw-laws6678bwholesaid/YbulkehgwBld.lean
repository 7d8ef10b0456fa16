/-
  The builder: newBuilder (f10), Grow where there is room (f22).
-/
import Derived.Test.YbulkehgwMem
namespace Go.Proofs.Ybulkehgw.Bld
open Go.RowKit Pl Mem

theorem Yba.rowInfo5 : (Yba.prog.info? 5).map (fun i => (i.zero, i.size, i.bytes)) = some (some (.int .u8 0), 1, 1) := by kernel_rfl
theorem Yba.rowInfo23 : (Yba.prog.info? 23).map (fun i => (i.zero, i.size, i.bytes)) = some (some (.int .u32 0), 1, 4) := by kernel_rfl

theorem cl_of_own {w : World} {B : Nat} {e : TypeId} {g n cap : Nat} {xs : List Value} (h : w.ownsRow B e 1 (.slice (some ⟨g, 0, none⟩) n cap) n xs) : ∃ cs, Cl w g e cs ∧ cs.length = cap ∧ cs.take n = xs ∧ n ≤ cap ∧ cap ≤ maxLen := by
  rcases h.2 with ⟨h, _⟩ | ⟨g', cap', cur, hv, hb, hg, h1, h2, h3, h4⟩
  · cases h
  · have e1 : g = g' := by injection hv with h _ _; injection h with h; injection h
    have e2 : cap = cap' := by injection hv
    subst e1 e2
    exact ⟨cur.toList, by unfold Cl; simpa using hg, by simpa using h3, by simpa using h4, h1, h2⟩
theorem own_of_cl {w : World} {B : Nat} {e : TypeId} {g n cap : Nat} {cs xs : List Value} (h : Cl w g e cs) (hB : B ≤ g) (hl : cs.length = cap) (hx : cs.take n = xs) (hn : n ≤ cap) (hm : cap ≤ maxLen) : w.ownsRow B e 1 (.slice (some ⟨g, 0, none⟩) n cap) n xs := by
  refine ⟨?_, .inr ⟨g, cap, cs.toArray, rfl, hB, h, hn, hm, by simpa using hl, by simpa using hx⟩⟩
  rw [← hx, List.length_take, hl, Nat.mul_one]
  omega
theorem made_list (k : IntKind) (n : Nat) : (madeCells (Value.int k 0).cells (n * 1)).toList = List.replicate n (.int k 0) := by
  rw [Nat.mul_one]
  exact toList_madeCells_one _ n

theorem grow_none (a : Addr) (len cap : Nat) (n : Nat) (w : World) (h : len + n ≤ cap) (hc : cap ≤ 4611686018427387904) :
    Calls Yba.prog 22 #[.slice (some a) len cap, .int .i64 (n : Int)] w fun e w' => e = .returned (.slice (some a) len cap) ∧ w' = w := by
  have h1 : (n : Int) - ((cap : Int) - (len : Int)) ≤ 0 := by omega
  go_enter Yba.func22, Yba.ntmps22
  go_wp2
  go_ret
  exact ⟨rfl, rfl⟩

def u32 (n : Nat) : Value := .int .u32 (n : Int)
def u32s (N : Nat) (f : Nat → Nat) : List Value := (List.range N).map fun j => u32 (f j)
theorem u32s_len (N : Nat) (f : Nat → Nat) : (u32s N f).length = N := by simp [u32s]
theorem u32s_at (N : Nat) (f : Nat → Nat) (j : Nat) (h : j < (u32s N f).length) : (u32s N f)[j] = u32 (f j) := by simp [u32s]
theorem u32s_set (N : Nat) (f g : Nat → Nat) (x v : Nat) (hv : g x = v) (ho : ∀ j, j ≠ x → g j = f j) : (u32s N f).set x (u32 v) = u32s N g := by
  apply List.ext_getElem?
  intro j
  rw [List.getElem?_set]
  by_cases e : x = j
  · subst e
    rw [if_pos rfl]
    by_cases h : x < N
    · simp [u32s, h, hv]
    · simp [u32s, h]
  · rw [if_neg e]
    unfold u32s
    rw [List.getElem?_map, List.getElem?_map]
    by_cases h : j < N
    · simp [h, ho j (fun h => e h.symm)]
    · simp [h]
theorem u32s_zero (N : Nat) : List.replicate N (.int .u32 0) = u32s N fun _ => 0 := by
  apply List.ext_getElem?
  intro j
  unfold u32s
  rw [List.getElem?_replicate, List.getElem?_map]
  by_cases h : j < N
  · simp [h, u32]
  · simp [h]
def nb (lead : Nat) : Nat := 256 ^ lead + 1
/-- The value of g.starts. -/
def stv (lead sb : Nat) : Value := if lead = 0 then .slice none 0 0 else .slice (some ⟨sb, 0, none⟩) (nb lead) (nb lead)
def nx (lead : Nat) (P : List Bs) : Nat := if lead = 0 then 0 else nxt lead P
def len (size lead : Nat) (P : List Bs) : Nat := P.length * (size - lead)
/-- The builder at bb holds the prefixes P. -/
structure Bd (w : World) (bb tb sb size lead cap : Nat) (P : List Bs) (buf : Value) : Prop where
  hd : Cl w bb 43 [.int .i64 (size : Int), .int .i64 (lead : Int), stv lead sb, .slice (some ⟨tb, 0, none⟩) (len size lead P) cap, .int .i64 (nx lead P : Int), buf]
  tl : ∃ cs, Cl w tb 5 cs ∧ cs.length = cap ∧ cs.take (len size lead P) = u8s (tls lead P)
  st : lead ≠ 0 → Cl w sb 23 (u32s (nb lead) (stB lead P))
/-- What newBuilder hands back. -/
def New (w : World) (size lead cap : Nat) (e : Ending) (w' : World) : Prop := ∃ bb tb sb, e = .returned (.pointer (some ⟨bb, 0, none⟩)) ∧ Bd w' bb tb sb size lead cap [] (.slice none 0 0) ∧ w.heap.size ≤ bb ∧ w.heap.size ≤ tb ∧ w.heap.size ≤ sb ∧ Below w.heap.size w w'

theorem grown_cl {w w' : World} {row : Option Nat} {b : Nat} {t : TypeId} {cs : List Value} (hg : w.grownBy w' row) (h : Cl w b t cs) (hne : some b ≠ row) : Cl w' b t cs := h.same (hg.block b h.lt hne)
theorem stB_nil' (lead : Nat) : stB lead [] = fun _ => 0 := by funext j; exact stB_nil lead j
theorem tls_nil (lead : Nat) : u8s (tls lead []) = [] := rfl

theorem new_zero (size n cap : Nat) (w : World) (h1 : 1 ≤ size) (h4 : size ≤ 4) (hn : n ≤ 1048576) (hc : n * (size - 0) = cap) :
    Calls Yba.prog 10 #[.int .i64 (size : Int), .int .i64 ((0 : Nat) : Int), .int .i64 (n : Int)] w (New w size 0 cap) := by
  obtain ⟨i5, hi5, hz50, hz51, hz52⟩ := info_parts Yba.rowInfo5
  have hcm : cap ≤ 4194304 := by rw [← hc]; exact Nat.le_trans (Nat.mul_le_mul hn (show _ ≤ 4 by omega)) (by decide)
  have hmul : (n : Int) * (size : Int) = (cap : Int) := by rw [← hc]; simp
  go_enter Yba.func10, Yba.ntmps10
  go_wp2_with (at_make; refine wpList_make_own _ rfl _ _ 22 rfl w.heap.size 5 i5 _ 1 Yba.underlying22 hi5 hz50 hz51 _ _ _ cap rfl rfl ?_ ?_ ?_ ?_ ?_)
  · rfl
  · rw [hz52]; omega
  · simp only [maxLen]; omega
  · exact Nat.le_refl _
  · intro w1 hown hgr
    obtain ⟨cs, hcl, hl, htk, _⟩ := cl_of_own hown
    have hb1 : Below w.heap.size w w1 := (Below.refl _ w).grown hgr (Nat.le_refl _) (by simp)
    have HCL := hid hcl
    have HB := hid hb1
    clear hown hgr hcl hb1
    go_wp2
    go_ret
    refine ⟨w1.heap.size, w.heap.size, w.heap.size, rfl, ⟨?_, ⟨cs, ?_, hl, ?_⟩, fun h => absurd rfl h⟩, HB.out.size, Nat.le_refl _, Nat.le_refl _, HB.out.alloc HB.out.size _⟩
    · simpa [stv, len, nx] using Cl.new w1 43 #[.int .i64 (size : Int), .int .i64 0, .slice none 0 0, .slice (some ⟨w.heap.size, 0, none⟩) 0 cap, .int .i64 0, .slice none 0 0]
    · exact HCL.out.below ((Below.refl _ w1).alloc (Nat.le_refl _) _) HCL.out.lt
    · rw [tls_nil]; unfold len; simp

theorem new_done {w w1 w2 : World} {size lead cap sb : Nat} {cs : List Value} (hl0 : lead ≠ 0) (HB : Below w.heap.size w w1) (hcl : Cl w1 w.heap.size 5 cs) (hcs : cs.length = cap) (h2 : Cl w2 sb 23 (u32s (nb lead) fun _ => 0)) (hsb : w.heap.size ≤ sb)
    (hbb : Cl w2 w1.heap.size 43 [.int .i64 (size : Int), .int .i64 (lead : Int), .slice none 0 0, .slice (some ⟨w.heap.size, 0, none⟩) 0 cap, .int .i64 0, .slice none 0 0]) (hB2 : Below w1.heap.size w1 w2) :
    New w size lead cap (.returned (.pointer (some ⟨w1.heap.size, 0, none⟩))) (w2.setCell ⟨w1.heap.size, 2, none⟩ (.slice (some ⟨sb, 0, none⟩) (nb lead) (nb lead))) := by
  have hK : Keeps (fun k => k = w1.heap.size) w2 (w2.setCell ⟨w1.heap.size, 2, none⟩ (.slice (some ⟨sb, 0, none⟩) (nb lead) (nb lead))) := Keeps.set _ _ _ rfl
  refine ⟨w1.heap.size, w.heap.size, sb, rfl, ⟨?_, ⟨cs, ?_, hcs, ?_⟩, fun _ => ?_⟩, HB.size, Nat.le_refl _, hsb, (HB.trans (hB2.mono HB.size)).trans (hK.below (Nat.le_trans HB.size hB2.size) fun k e => by rw [e]; exact HB.size)⟩
  · have := hbb.set 2 (.slice (some ⟨sb, 0, none⟩) (nb lead) (nb lead))
    simpa [stv, len, nx, nxt, hl0] using this
  · exact hK.cl (hcl.below hB2 hcl.lt) (by have := hcl.lt; omega)
  · rw [tls_nil]; unfold len; simp
  · rw [stB_nil']
    exact hK.cl h2 (fun e => Cl.ne (e ▸ h2) hbb (by decide) rfl)
theorem zeros_cl {w : World} {sb N : Nat} {cs : List Value} (h : Cl w sb 23 cs) (hl : cs.length = N) (ht : cs.take N = (madeCells (Value.int .u32 0).cells (N * 1)).toList) : Cl w sb 23 (u32s N fun _ => 0) := by
  rw [made_list, ← hl, List.take_length, hl] at ht
  rw [← u32s_zero, ← ht]
  exact h

set_option maxHeartbeats 1000000 in
theorem new_one (size n cap : Nat) (w : World) (h1 : 2 ≤ size) (h4 : size ≤ 4) (hn : n ≤ 1048576) (hc : n * (size - 1) = cap) :
    Calls Yba.prog 10 #[.int .i64 (size : Int), .int .i64 ((1 : Nat) : Int), .int .i64 (n : Int)] w (New w size 1 cap) := by
  obtain ⟨i5, hi5, hz50, hz51, hz52⟩ := info_parts Yba.rowInfo5
  obtain ⟨i23, hi23, hz230, hz231, hz232⟩ := info_parts Yba.rowInfo23
  have hcm : cap ≤ 4194304 := by rw [← hc]; exact Nat.le_trans (Nat.mul_le_mul hn (show _ ≤ 4 by omega)) (by decide)
  have hmul : (n : Int) * ((size : Int) - 1) = (cap : Int) := by rw [← hc, Int.natCast_mul]; congr 1; omega
  go_enter Yba.func10, Yba.ntmps10
  go_wp2_with (at_make; refine wpList_make_own _ rfl _ _ 22 rfl w.heap.size 5 i5 _ 1 Yba.underlying22 hi5 hz50 hz51 _ _ _ cap rfl rfl ?_ ?_ ?_ ?_ ?_)
  · rfl
  · rw [hz52]; omega
  · simp only [maxLen]; omega
  · exact Nat.le_refl _
  · intro w1 hown hgr
    obtain ⟨cs, hcl, hl, htk, _⟩ := cl_of_own hown
    have hb1 : Below w.heap.size w w1 := (Below.refl _ w).grown hgr (Nat.le_refl _) (by simp)
    have HCL := hid hcl
    have HB := hid hb1
    clear hown hgr hcl hb1
    go_wp2_with (at_make; refine wpList_make_full _ rfl _ _ 29 rfl w.heap.size 23 i23 _ 1 Yba.underlying29 hi23 hz230 hz231 _ _ _ _ 257 rfl rfl ?_ ?_ ?_ ?_ ?_ ?_)
    · rfl
    · rfl
    · rw [hz232]; decide
    · decide
    · exact Nat.le_trans HB.out.size (by simp)
    · intro w2 hown hgr
      obtain ⟨cs2, hcl2, hl2, htk2, _⟩ := cl_of_own hown
      have hz := zeros_cl hcl2 hl2 htk2
      have hbb := grown_cl hgr (Cl.new w1 43 #[.int .i64 (size : Int), .int .i64 1, .slice none 0 0, .slice (some ⟨w.heap.size, 0, none⟩) 0 cap, .int .i64 0, .slice none 0 0]) (by simp)
      have hB2 : Below w1.heap.size w1 w2 := ((Below.refl _ w1).alloc (Nat.le_refl _) _).grown hgr (by simp) (by simp)
      have d2 := hbb.cell 2 (by simp)
      have f2 := hbb.frozen 2
      have hfin := new_done (lead := 1) (by decide) HB.out HCL.out hl hz (by have := HB.out.size; simp; omega) hbb hB2
      have HF := hid hfin
      clear hown hgr hcl2 hl2 htk2 hz hbb hB2 hfin
      simp only [List.getElem_cons_succ, List.getElem_cons_zero] at d2
      go_wp2
      go_ret
      exact HF.out
set_option maxHeartbeats 1000000 in
theorem new_two (size n cap : Nat) (w : World) (h1 : 3 ≤ size) (h4 : size ≤ 4) (hn : n ≤ 1048576) (hc : n * (size - 2) = cap) :
    Calls Yba.prog 10 #[.int .i64 (size : Int), .int .i64 ((2 : Nat) : Int), .int .i64 (n : Int)] w (New w size 2 cap) := by
  obtain ⟨i5, hi5, hz50, hz51, hz52⟩ := info_parts Yba.rowInfo5
  obtain ⟨i23, hi23, hz230, hz231, hz232⟩ := info_parts Yba.rowInfo23
  have hcm : cap ≤ 4194304 := by rw [← hc]; exact Nat.le_trans (Nat.mul_le_mul hn (show _ ≤ 4 by omega)) (by decide)
  have hmul : (n : Int) * ((size : Int) - 2) = (cap : Int) := by rw [← hc, Int.natCast_mul]; congr 1; omega
  go_enter Yba.func10, Yba.ntmps10
  go_wp2_with (at_make; refine wpList_make_own _ rfl _ _ 22 rfl w.heap.size 5 i5 _ 1 Yba.underlying22 hi5 hz50 hz51 _ _ _ cap rfl rfl ?_ ?_ ?_ ?_ ?_)
  · rfl
  · rw [hz52]; omega
  · simp only [maxLen]; omega
  · exact Nat.le_refl _
  · intro w1 hown hgr
    obtain ⟨cs, hcl, hl, htk, _⟩ := cl_of_own hown
    have hb1 : Below w.heap.size w w1 := (Below.refl _ w).grown hgr (Nat.le_refl _) (by simp)
    have HCL := hid hcl
    have HB := hid hb1
    clear hown hgr hcl hb1
    go_wp2_with (at_make; refine wpList_make_full _ rfl _ _ 29 rfl w.heap.size 23 i23 _ 1 Yba.underlying29 hi23 hz230 hz231 _ _ _ _ 65537 rfl rfl ?_ ?_ ?_ ?_ ?_ ?_)
    · rfl
    · rfl
    · rw [hz232]; decide
    · decide
    · exact Nat.le_trans HB.out.size (by simp)
    · intro w2 hown hgr
      obtain ⟨cs2, hcl2, hl2, htk2, _⟩ := cl_of_own hown
      have hz := zeros_cl hcl2 hl2 htk2
      have hbb := grown_cl hgr (Cl.new w1 43 #[.int .i64 (size : Int), .int .i64 2, .slice none 0 0, .slice (some ⟨w.heap.size, 0, none⟩) 0 cap, .int .i64 0, .slice none 0 0]) (by simp)
      have hB2 : Below w1.heap.size w1 w2 := ((Below.refl _ w1).alloc (Nat.le_refl _) _).grown hgr (by simp) (by simp)
      have d2 := hbb.cell 2 (by simp)
      have f2 := hbb.frozen 2
      have hfin := new_done (lead := 2) (by decide) HB.out HCL.out hl hz (by have := HB.out.size; simp; omega) hbb hB2
      have HF := hid hfin
      clear hown hgr hcl2 hl2 htk2 hz hbb hB2 hfin
      simp only [List.getElem_cons_succ, List.getElem_cons_zero] at d2
      go_wp2
      go_ret
      exact HF.out
end Go.Proofs.Ybulkehgw.Bld
