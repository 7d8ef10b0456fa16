/-
  zzs6678bgroup (f8): the group by definition.
-/
import Derived.Test.YbulkehgwAddL
namespace Go.Proofs.Ybulkehgw.Grp
open Go.RowKit Pl Mem Bld AddZ AddL

/-- A slice of slices of bytes that reads as P. -/
structure Ps (w : World) (ao : Option Addr) (size : Nat) (P : List Bs) : Prop where
  ok : ∀ p ∈ P, Okp size p
  at_ : ∀ i (h : i < P.length), ∃ b off g c, ao = some ⟨b, off, none⟩ ∧ w.cell? ⟨b, off + i, none⟩ = some (.slice (some ⟨g, 0, none⟩) size c) ∧ Rd w g 0 P[i] ∧ size ≤ c ∧ c ≤ 4611686018427387904 ∧ b < w.heap.size ∧ g < w.heap.size
theorem Ps.below {w w' : World} {ao : Option Addr} {size : Nat} {P : List Bs} (h : Ps w ao size P) (hb : Below w.heap.size w w') : Ps w' ao size P := by
  refine ⟨h.ok, fun i hi => ?_⟩
  obtain ⟨b, off, g, c, h1, h2, h3, h4, h5, h6, h7⟩ := h.at_ i hi
  exact ⟨b, off, g, c, h1, (hb.cell h6).trans h2, h3.below hb h7, h4, h5, Nat.lt_of_lt_of_le h6 hb.size, Nat.lt_of_lt_of_le h7 hb.size⟩

/-- The tails so far. -/
def Tl (w : World) (tb cap : Nat) (bs : Bs) : Prop := ∃ cs, Cl w tb 5 cs ∧ cs.length = cap ∧ cs.take bs.length = u8s bs
theorem Tl.same {w w' : World} {tb cap : Nat} {bs : Bs} (h : Tl w tb cap bs) (hb : w'.heap[tb]? = w.heap[tb]?) : Tl w' tb cap bs := by
  obtain ⟨cs, h1, h2, h3⟩ := h
  exact ⟨cs, h1.same hb, h2, h3⟩
theorem Tl.lt {w : World} {tb cap : Nat} {bs : Bs} (h : Tl w tb cap bs) : tb < w.heap.size := by obtain ⟨cs, h1, _⟩ := h; exact h1.lt
theorem Tl.rd {w : World} {tb cap : Nat} {bs : Bs} (h : Tl w tb cap bs) : Rd w tb 0 bs := by obtain ⟨cs, h1, _, h3⟩ := h; exact h1.rd h3

/-- What the call hands back. -/
structure GrpAt (w : World) (size lead : Nat) (P : List Bs) (tb cap sb : Nat) (w' : World) : Prop where
  tl : Tl w' tb cap (tls lead P)
  st : lead ≠ 0 → Cl w' sb 23 (u32s (nb lead) (cnt lead P))
  low : w.heap.size ≤ tb ∧ (lead ≠ 0 → w.heap.size ≤ sb)
  below : Below w.heap.size w w'
  cap : (tls lead P).length ≤ cap ∧ cap ≤ 4194304
def GrpPost (w : World) (size lead : Nat) (P : List Bs) (e : Ending) (w' : World) : Prop :=
  ∃ tb cap sb, e = .returned (.agg #[.int .i64 (size : Int), .int .i64 (lead : Int), stv lead sb, .slice (some ⟨tb, 0, none⟩) (len size lead P) cap]) ∧ GrpAt w size lead P tb cap sb w'

theorem filled {W : World} {r0 : Nat} {a0 a1 a2 a3 : Value} (h : Cl W r0 31 [a0, a1, a2, a3]) (v0 v1 v2 v3 : Value) : Cl ((((W.setCell ⟨r0, 0, none⟩ v0).setCell ⟨r0, 1, none⟩ v1).setCell ⟨r0, 2, none⟩ v2).setCell ⟨r0, 3, none⟩ v3) r0 31 [v0, v1, v2, v3] ∧ Keeps (fun k => k = r0) W ((((W.setCell ⟨r0, 0, none⟩ v0).setCell ⟨r0, 1, none⟩ v1).setCell ⟨r0, 2, none⟩ v2).setCell ⟨r0, 3, none⟩ v3) :=
by
  have k0 : Keeps (fun k => k = r0) W (W.setCell ⟨r0, 0, none⟩ v0) := Keeps.set W ⟨r0, 0, none⟩ v0 rfl
  have k1 : Keeps (fun k => k = r0) _ ((W.setCell ⟨r0, 0, none⟩ v0).setCell ⟨r0, 1, none⟩ v1) := Keeps.set (W.setCell ⟨r0, 0, none⟩ v0) ⟨r0, 1, none⟩ v1 rfl
  have k2 : Keeps (fun k => k = r0) _ (((W.setCell ⟨r0, 0, none⟩ v0).setCell ⟨r0, 1, none⟩ v1).setCell ⟨r0, 2, none⟩ v2) := Keeps.set ((W.setCell ⟨r0, 0, none⟩ v0).setCell ⟨r0, 1, none⟩ v1) ⟨r0, 2, none⟩ v2 rfl
  have k3 : Keeps (fun k => k = r0) _ ((((W.setCell ⟨r0, 0, none⟩ v0).setCell ⟨r0, 1, none⟩ v1).setCell ⟨r0, 2, none⟩ v2).setCell ⟨r0, 3, none⟩ v3) := Keeps.set (((W.setCell ⟨r0, 0, none⟩ v0).setCell ⟨r0, 1, none⟩ v1).setCell ⟨r0, 2, none⟩ v2) ⟨r0, 3, none⟩ v3 rfl
  exact ⟨by simpa using (((h.set 0 v0).set 1 v1).set 2 v2).set 3 v3, ((k0.trans k1).trans k2).trans k3⟩
theorem results8 (tmps : Array Value) (w : World) (r0 : Nat) (v0 v1 v2 v3 : Value) (ht : tmps.getD 6 undef = .pointer (some ⟨r0, 0, none⟩)) (h0 : w.cell? ⟨r0, 0, none⟩ = some v0) (h1 : w.cell? ⟨r0, 1, none⟩ = some v1) (h2 : w.cell? ⟨r0, 2, none⟩ = some v2) (h3 : w.cell? ⟨r0, 3, none⟩ = some v3) :
    (results Yba.f8 tmps).run Yba.prog w = .ok (.agg #[v0, v1, v2, v3]) w := by
  have hd : (tmps[6]?.getD undef) = .pointer (some ⟨r0, 0, none⟩) := by simpa using ht
  simp [results, hd, asAddr]
  go_simp
/-- How many prefixes lie in bucket j - 1. -/
def cn1 (lead : Nat) (P : List Bs) (j : Nat) : Nat := P.countP fun p => decide (bkt lead p + 1 = j)
theorem cn1_le (lead : Nat) (P : List Bs) (j : Nat) : cn1 lead P j ≤ P.length := List.countP_le_length
theorem cn1_snoc (lead : Nat) (P : List Bs) (q : Bs) (j : Nat) : cn1 lead (P ++ [q]) j = if bkt lead q + 1 = j then cn1 lead P j + 1 else cn1 lead P j := by
  unfold cn1
  rw [List.countP_append, List.countP_singleton]
  by_cases h : bkt lead q + 1 = j <;> simp [h]
theorem cnt_succ (lead : Nat) (P : List Bs) (j : Nat) : cnt lead P (j + 1) = cnt lead P j + cn1 lead P (j + 1) := by
  unfold cnt cn1
  induction P with
  | nil => rfl
  | cons p r ih =>
    rw [List.countP_cons, List.countP_cons, List.countP_cons, ih]
    have h3 : bkt lead p < j ∨ bkt lead p = j ∨ j < bkt lead p := by omega
    rcases h3 with h | h | h
    · simp [show bkt lead p < j + 1 by omega, h, show ¬ bkt lead p = j by omega]; omega
    · simp [h]; omega
    · simp [show ¬ bkt lead p < j + 1 by omega, show ¬ bkt lead p < j by omega, show ¬ bkt lead p = j by omega]
theorem cn1_zero (lead : Nat) (P : List Bs) : cn1 lead P 0 = 0 := by
  unfold cn1
  rw [List.countP_eq_zero]
  intro p _
  simp
/-- The starts while the sums have come to j. -/
def mixS (lead : Nat) (P : List Bs) (j x : Nat) : Nat := if x < j then cnt lead P x else cn1 lead P x
theorem mixS_one (lead : Nat) (P : List Bs) : mixS lead P 1 = cn1 lead P := by
  funext x
  unfold mixS
  by_cases h : x < 1
  · obtain rfl : x = 0 := by omega
    rw [if_pos h, cnt_zero, cn1_zero]
  · rw [if_neg h]
theorem mixS_step (lead : Nat) (P : List Bs) (j x : Nat) (hj : 1 ≤ j) : mixS lead P (j + 1) x = if x = j then cn1 lead P j + cnt lead P (j - 1) else mixS lead P j x := by
  unfold mixS
  by_cases e : x = j
  · subst e
    rw [if_pos (by omega), if_pos rfl]
    obtain ⟨y, rfl⟩ : ∃ y, x = y + 1 := ⟨x - 1, by omega⟩
    rw [cnt_succ, Nat.add_sub_cancel]; omega
  · rw [if_neg e]
    by_cases h : x < j
    · rw [if_pos h, if_pos (by omega)]
    · rw [if_neg h, if_neg (by omega)]
theorem mixS_end (lead : Nat) (P : List Bs) (N : Nat) : u32s N (mixS lead P N) = u32s N (cnt lead P) := by
  unfold u32s
  refine List.map_congr_left fun x hx => ?_
  unfold mixS
  rw [if_pos (List.mem_range.1 hx)]
theorem Tl.own {w : World} {tb cap : Nat} {bs : Bs} (h : Tl w tb cap bs) (hl : bs.length ≤ cap) (hm : cap ≤ 4194304) : w.ownsRow 0 5 1 (.slice (some ⟨tb, 0, none⟩) bs.length cap) bs.length (u8s bs) := by
  obtain ⟨cs, h1, h2, h3⟩ := h
  exact own_of_cl h1 (Nat.zero_le _) h2 h3 hl (by simp only [maxLen]; omega)
theorem Tl.of {w : World} {tb cap n : Nat} {bs : Bs} (h : w.ownsRow 0 5 1 (.slice (some ⟨tb, 0, none⟩) n cap) n (u8s bs)) (hn : bs.length = n) : Tl w tb cap bs := by
  obtain ⟨cs, h1, h2, h3, _⟩ := cl_of_own h
  exact ⟨cs, h1, h2, by rw [hn]; exact h3⟩
theorem rd_cells {w : World} {g off : Nat} {bs : Bs} (h : Rd w g off bs) : ∀ ad, some (⟨g, off, none⟩ : Addr) = some ad → ∀ j u, (u8s bs)[j]? = some u → w.cell? (ad.add j) = some u := by
  rintro ad ⟨⟩ j u hj
  rw [u8s_at?] at hj
  cases hb : bs[j]? with
  | none => rw [hb] at hj; cases hj
  | some c =>
    rw [hb] at hj
    obtain ⟨hlt, e2⟩ := List.getElem?_eq_some_iff.1 hb
    rw [show (⟨g, off, none⟩ : Addr).add j = ⟨g, off + j, none⟩ from by simp [Addr.add], h j hlt, e2]
    exact hj

set_option maxHeartbeats 2000000 in
set_option maxRecDepth 100000 in
theorem group_zero (ao : Option Addr) (c size : Nat) (P : List Bs) (w : World) (h : Ps w ao size P) (hm : P.length ≤ 1048576) (hs1 : 0 < size) (hs : size ≤ 4) :
    Calls Yba.prog 8 #[.slice ao P.length c, .int .i64 (size : Int), .int .i64 ((0 : Nat) : Int)] w (GrpPost w size 0 P) := by
  obtain ⟨i5, hi5, hz50, hz51, hz52⟩ := info_parts Yba.rowInfo5
  obtain ⟨i23, hi23, hz230, hz231, hz232⟩ := info_parts Yba.rowInfo23
  obtain ⟨m, hmm⟩ : ∃ m, P.length = m := ⟨_, rfl⟩
  obtain ⟨nn, hnn⟩ : ∃ nn, size - 0 = nn := ⟨_, rfl⟩
  obtain ⟨cap, hc⟩ : ∃ cap, m * nn = cap := ⟨_, rfl⟩
  have hcm : cap ≤ 4194304 := by rw [← hc, ← hmm]; exact Nat.le_trans (Nat.mul_le_mul hm (show _ ≤ 4 by omega)) (by decide)
  have hnn1 : (size : Int) - 0 = (nn : Int) := by omega
  have hmul : (m : Int) * (nn : Int) = (cap : Int) := by rw [← hc, Int.natCast_mul]
  have HPS := hid h
  rw [hmm] at hm ⊢
  have HMM := hid hmm
  have HC := hid hc
  have HNN := hid hnn
  clear h hmm hc hnn
  go_enter Yba.func8, Yba.ntmps8
  go_wp2_with (at_make; refine wpList_make_own _ rfl _ _ 22 rfl 0 5 i5 _ 1 Yba.underlying22 hi5 hz50 hz51 _ _ _ cap rfl rfl ?_ ?_ ?_ ?_ ?_)
  · rfl
  · rw [hz52]; omega
  · simp only [maxLen]; omega
  · exact Nat.zero_le _
  intro w1 hown hgr
  have hb0 : Below w.heap.size w ((w.alloc (.cells #[.int .i64 0, .int .i64 0, .slice none 0 0, .slice none 0 0] 31)).alloc (.cells #[.int .i64 (size : Int), .int .i64 0, .slice none 0 0, .slice none 0 0] 31)) := ((Below.refl _ w).alloc (Nat.le_refl _) _).alloc (by simp) _
  have hb1 : Below w.heap.size w w1 := hb0.grown hgr (by simp; omega) (by simp)
  have htl : Tl w1 (w.heap.size + 1 + 1) cap (tls 0 (P.take 0)) := Tl.of (n := 0) (by simpa [tls, u8s] using hown) rfl
  have hr0 := grown_cl hgr (grown_cl (row := none) (World.grownBy_alloc _ _ _) (Cl.new w 31 #[.int .i64 0, .int .i64 0, .slice none 0 0, .slice none 0 0]) (by simp)) (by simp)
  have hr1 := grown_cl hgr (Cl.new (w.alloc (.cells #[.int .i64 0, .int .i64 0, .slice none 0 0, .slice none 0 0] 31)) 31 #[.int .i64 (size : Int), .int .i64 0, .slice none 0 0, .slice none 0 0]) (by simp)
  have HB1 := hid hb1
  have HTL := hid htl
  have HR0 := hid hr0
  have HR1 := hid hr1
  clear hown hgr hb0 hb1 htl hr0 hr1
  go_wp2
  go_loopw [8, 10, 28] (fun tv _ iv wr => ∃ i o : Nat, i ≤ m ∧ iv = .int .i64 (i : Int) ∧ tv = .slice (some ⟨w.heap.size + 1 + 1, 0, none⟩) o cap ∧ (tls 0 (P.take i)).length = o ∧ Tl wr (w.heap.size + 1 + 1) cap (tls 0 (P.take i)) ∧ Keeps (fun k => k = w.heap.size + 1 + 1) w1 wr) (fun _ _ iv _ => m - (intOf iv).toNat)
  case atStart => exact ⟨0, 0, Nat.zero_le _, rfl, rfl, by simp [tls], HTL.out, Keeps.refl _ _⟩
  case round =>
    obtain ⟨i, o, hi, rfl, rfl, ho, htl, hkp⟩ := hrel
    have hbl : Below w.heap.size w wr := HB1.out.trans (hkp.below HB1.out.size fun k e => by omega)
    have hps := HPS.out.below hbl
    have hol : o = i * nn := by
      rw [← ho, tls_len (size := size) (fun p hp => HPS.out.ok p (List.mem_of_mem_take hp)), HNN.out, List.length_take, HMM.out, Nat.min_eq_left hi]
    by_cases him : i < m
    · have hiP : i < P.length := by rw [HMM.out]; exact him
      obtain ⟨b, off, g, cc, rfl, hcell, hrd, hcc, hcm2, hblt, hglt⟩ := hps.at_ i hiP
      obtain ⟨p, hp⟩ : ∃ p, P[i] = p := ⟨_, rfl⟩
      rw [hp] at hrd
      have hpo : Okp size p := by rw [← hp]; exact HPS.out.ok _ (List.getElem_mem hiP)
      have hfit : o + nn ≤ cap := by
        have h1 : (i + 1) * nn ≤ m * nn := Nat.mul_le_mul_right _ him
        rw [HC.out, Nat.add_mul] at h1
        omega
      have hown := htl.own (by omega) hcm
      rw [ho] at hown
      have hnl : (u8s (p.drop 0)).length = size * 1 := by rw [u8s_len, List.length_drop, hpo.1, Nat.mul_one]; rfl
      have hrdd : Rd wr g 0 (p.drop 0) := by have := hrd.drop 0; rwa [Nat.zero_add] at this
      have hrc := rd_cells hrdd
      have hfit2 : o + size ≤ cap := by have := HNN.out; omega
      have hcl1 : ¬ cc = 0 := by omega
      have hcl2 : (0 : Int) ≤ (size : Int) := by omega
      have hcl3 : (size : Int) ≤ (cc : Int) := by omega
      have htk : P.take (i + 1) = P.take i ++ [p] := by rw [List.take_add_one, List.getElem?_eq_getElem hiP, hp]; rfl
      have HO := hid hown
      have HRC := hid hrc
      have HKP := hid hkp
      have HTK := hid htk
      have HOL := hid ho
      have HPO := hid hpo
      have hol2 : (o : Int) ≤ 4194304 := by omega
      clear hown hrc hkp htk ho hpo hbl hps hp hrd hrdd htl hol hfit
      go_wp2_with (at_builtin; refine wpList_append_fits_any _ rfl _ _ 22 rfl 0 5 i5 1 Yba.underlying22 hi5 hz51 (w.heap.size + 1 + 1) o cap (u8s (tls 0 (P.take i))) rfl HO.out (some ⟨g, 0, none⟩) (size) (cc) (u8s (p.drop 0)) rfl hnl (by simp) HRC.out (u8_one _) hfit2 ?_)
      intro w2 hown2 hgr2
      have hlen2 : (tls 0 (P.take (i + 1))).length = o + size := by
        rw [HTK.out, tls_append, List.length_append, HOL.out, tls_one, List.length_drop, HPO.out.1]; rfl
      have htl2 : Tl w2 (w.heap.size + 1 + 1) cap (tls 0 (P.take (i + 1))) := Tl.of (n := o + size) (by rw [HTK.out, tls_append, tls_one]; simpa [u8s] using hown2) hlen2
      have hkp2 : Keeps (fun k => k = w.heap.size + 1 + 1) w1 w2 := HKP.out.trans ((Keeps.of_grown hgr2).mono fun k _ e => (Option.some.inj e).symm)
      have HTL2 := hid htl2
      have HKP2 := hid hkp2
      have HLE2 := hid hlen2
      clear hown2 hgr2 htl2 hkp2 hlen2
      go_wp2
      go_roundw
      case rel => exact ⟨i + 1, _, by omega, by go_num, rfl, HLE2.out, HTL2.out, HKP2.out⟩
      case measure => simp [intOf]; omega
    · obtain rfl : i = m := by omega
      have hPt : P.take i = P := by rw [← HMM.out, List.take_length]
      rw [hPt] at ho htl
      have hc0 := hkp.cl HR0.out (by omega)
      have hc1 : Cl wr (w.heap.size + 1) 31 [.int .i64 (size : Int), .int .i64 0, .slice none 0 0, .slice none 0 0] := by have := hkp.cl HR1.out (by simp); simpa using this
      have c00 := hc0.cell 0 (by simp)
      have c01 := hc0.cell 1 (by simp)
      have c02 := hc0.cell 2 (by simp)
      have c03 := hc0.cell 3 (by simp)
      have f00 := hc0.frozen 0
      have f01 := hc0.frozen 1
      have f02 := hc0.frozen 2
      have f03 := hc0.frozen 3
      have c10 := hc1.cell 0 (by simp)
      have c11 := hc1.cell 1 (by simp)
      have c12 := hc1.cell 2 (by simp)
      have c13 := hc1.cell 3 (by simp)
      have f12 := hc1.frozen 2
      have f13 := hc1.frozen 3
      simp only [List.getElem_cons_succ, List.getElem_cons_zero] at c00 c01 c02 c03 f00 f01 f02 f03 c10 c11 c12 c13 f12 f13
      have HTL2 := hid htl
      have HKP := hid hkp
      have HOL := hid ho
      have HB := hid hbl
      have HCC0 := hid hc0
      have HCC1 := hid hc1
      clear htl hkp ho hbl hps hPt hc0 hc1 hol
      go_wp2
      have hk1 : Keeps (fun k => k = w.heap.size + 1) wr (wr.setCell ⟨w.heap.size + 1, 3, none⟩ (.slice (some ⟨w.heap.size + 1 + 1, 0, none⟩) o cap)) := Keeps.set _ _ _ rfl
      obtain ⟨hf, hk2⟩ := filled (hk1.cl HCC0.out (by omega)) (.int .i64 (size : Int)) (.int .i64 0) (.slice none 0 0) (.slice (some ⟨w.heap.size + 1 + 1, 0, none⟩) o cap)
      refine bodyPost_ret (results8 _ _ w.heap.size _ _ _ _ rfl (hf.cell 0 (by simp)) (hf.cell 1 (by simp)) (hf.cell 2 (by simp)) (hf.cell 3 (by simp))) rfl ?_
      have hall := (hk1.mono (N := fun k => w.heap.size ≤ k ∧ k ≤ w.heap.size + 1) fun k _ e => by omega).trans (hk2.mono fun k _ e => by omega)
      have hlen : len size 0 P = o := by rw [← HOL.out, tls_len HPS.out.ok]; rfl
      refine ⟨w.heap.size + 1 + 1, cap, 0, ?_, ⟨HTL2.out.same (hall.block _ HTL2.out.lt (by omega)), fun h => absurd rfl h, ⟨by omega, fun h => absurd rfl h⟩, HB.out.trans (hall.below HB.out.size fun k h => h.1), ?_, hcm⟩⟩
      · rw [hlen]; rfl
      · rw [HOL.out]
        obtain ⟨cs, h1, h2, h3⟩ := HTL2.out
        have := congrArg List.length h3
        rw [List.length_take, u8s_len, HOL.out] at this
        omega
set_option maxHeartbeats 2000000 in
set_option maxRecDepth 100000 in
theorem group_one (ao : Option Addr) (c size : Nat) (P : List Bs) (w : World) (h : Ps w ao size P) (hm : P.length ≤ 1048576) (hs1 : 1 < size) (hs : size ≤ 4) :
    Calls Yba.prog 8 #[.slice ao P.length c, .int .i64 (size : Int), .int .i64 ((1 : Nat) : Int)] w (GrpPost w size 1 P) := by
  obtain ⟨i5, hi5, hz50, hz51, hz52⟩ := info_parts Yba.rowInfo5
  obtain ⟨i23, hi23, hz230, hz231, hz232⟩ := info_parts Yba.rowInfo23
  obtain ⟨m, hmm⟩ : ∃ m, P.length = m := ⟨_, rfl⟩
  obtain ⟨nn, hnn⟩ : ∃ nn, size - 1 = nn := ⟨_, rfl⟩
  obtain ⟨cap, hc⟩ : ∃ cap, m * nn = cap := ⟨_, rfl⟩
  have hcm : cap ≤ 4194304 := by rw [← hc, ← hmm]; exact Nat.le_trans (Nat.mul_le_mul hm (show _ ≤ 4 by omega)) (by decide)
  have hnn1 : (size : Int) - 1 = (nn : Int) := by omega
  have hmul : (m : Int) * (nn : Int) = (cap : Int) := by rw [← hc, Int.natCast_mul]
  have HPS := hid h
  rw [hmm] at hm ⊢
  have HMM := hid hmm
  have HC := hid hc
  have HNN := hid hnn
  clear h hmm hc hnn
  go_enter Yba.func8, Yba.ntmps8
  go_wp2_with (at_make; refine wpList_make_own _ rfl _ _ 22 rfl 0 5 i5 _ 1 Yba.underlying22 hi5 hz50 hz51 _ _ _ cap rfl rfl ?_ ?_ ?_ ?_ ?_)
  · rfl
  · rw [hz52]; omega
  · simp only [maxLen]; omega
  · exact Nat.zero_le _
  intro w1 hown hgr
  have hb0 : Below w.heap.size w ((w.alloc (.cells #[.int .i64 0, .int .i64 0, .slice none 0 0, .slice none 0 0] 31)).alloc (.cells #[.int .i64 (size : Int), .int .i64 1, .slice none 0 0, .slice none 0 0] 31)) := ((Below.refl _ w).alloc (Nat.le_refl _) _).alloc (by simp) _
  have hb1 : Below w.heap.size w w1 := hb0.grown hgr (by simp; omega) (by simp)
  have htl : Tl w1 (w.heap.size + 1 + 1) cap (tls 1 (P.take 0)) := Tl.of (n := 0) (by simpa [tls, u8s] using hown) rfl
  have hr0 := grown_cl hgr (grown_cl (row := none) (World.grownBy_alloc _ _ _) (Cl.new w 31 #[.int .i64 0, .int .i64 0, .slice none 0 0, .slice none 0 0]) (by simp)) (by simp)
  have hr1 := grown_cl hgr (Cl.new (w.alloc (.cells #[.int .i64 0, .int .i64 0, .slice none 0 0, .slice none 0 0] 31)) 31 #[.int .i64 (size : Int), .int .i64 1, .slice none 0 0, .slice none 0 0]) (by simp)
  have HB1 := hid hb1
  have HTL := hid htl
  have HR0 := hid hr0
  have HR1 := hid hr1
  clear hown hgr hb0 hb1 htl hr0 hr1
  go_wp2
  go_loopw [8, 10, 28] (fun tv _ iv wr => ∃ i o : Nat, i ≤ m ∧ iv = .int .i64 (i : Int) ∧ tv = .slice (some ⟨w.heap.size + 1 + 1, 0, none⟩) o cap ∧ (tls 1 (P.take i)).length = o ∧ Tl wr (w.heap.size + 1 + 1) cap (tls 1 (P.take i)) ∧ Keeps (fun k => k = w.heap.size + 1 + 1) w1 wr) (fun _ _ iv _ => m - (intOf iv).toNat)
  case atStart => exact ⟨0, 0, Nat.zero_le _, rfl, rfl, by simp [tls], HTL.out, Keeps.refl _ _⟩
  case round =>
    obtain ⟨i, o, hi, rfl, rfl, ho, htl, hkp⟩ := hrel
    have hbl : Below w.heap.size w wr := HB1.out.trans (hkp.below HB1.out.size fun k e => by omega)
    have hps := HPS.out.below hbl
    have hol : o = i * nn := by
      rw [← ho, tls_len (size := size) (fun p hp => HPS.out.ok p (List.mem_of_mem_take hp)), HNN.out, List.length_take, HMM.out, Nat.min_eq_left hi]
    by_cases him : i < m
    · have hiP : i < P.length := by rw [HMM.out]; exact him
      obtain ⟨b, off, g, cc, rfl, hcell, hrd, hcc, hcm2, hblt, hglt⟩ := hps.at_ i hiP
      obtain ⟨p, hp⟩ : ∃ p, P[i] = p := ⟨_, rfl⟩
      rw [hp] at hrd
      have hpo : Okp size p := by rw [← hp]; exact HPS.out.ok _ (List.getElem_mem hiP)
      have hfit : o + nn ≤ cap := by
        have h1 : (i + 1) * nn ≤ m * nn := Nat.mul_le_mul_right _ him
        rw [HC.out, Nat.add_mul] at h1
        omega
      have hown := htl.own (by omega) hcm
      rw [ho] at hown
      have hnl : (u8s (p.drop 1)).length = (size - 1) * 1 := by rw [u8s_len, List.length_drop, hpo.1, Nat.mul_one]
      have hrdd : Rd wr g 1 (p.drop 1) := by have := hrd.drop 1; rwa [Nat.zero_add] at this
      have hrc := rd_cells hrdd
      have hfit2 : o + (size - 1) ≤ cap := by have := HNN.out; omega
      have hcl1 : ¬ cc = 1 := by omega
      have hcl2 : (1 : Int) ≤ (size : Int) := by omega
      have hcl3 : (size : Int) ≤ (cc : Int) := by omega
      have htk : P.take (i + 1) = P.take i ++ [p] := by rw [List.take_add_one, List.getElem?_eq_getElem hiP, hp]; rfl
      have HO := hid hown
      have HRC := hid hrc
      have HKP := hid hkp
      have HTK := hid htk
      have HOL := hid ho
      have HPO := hid hpo
      have hol2 : (o : Int) ≤ 4194304 := by omega
      clear hown hrc hkp htk ho hpo hbl hps hp hrd hrdd htl hol hfit
      go_wp2_with (at_builtin; refine wpList_append_fits_any _ rfl _ _ 22 rfl 0 5 i5 1 Yba.underlying22 hi5 hz51 (w.heap.size + 1 + 1) o cap (u8s (tls 1 (P.take i))) rfl HO.out (some ⟨g, 1, none⟩) ((size - 1)) (cc - 1) (u8s (p.drop 1)) rfl hnl (by simp) HRC.out (u8_one _) hfit2 ?_)
      intro w2 hown2 hgr2
      have hlen2 : (tls 1 (P.take (i + 1))).length = o + (size - 1) := by
        rw [HTK.out, tls_append, List.length_append, HOL.out, tls_one, List.length_drop, HPO.out.1]
      have htl2 : Tl w2 (w.heap.size + 1 + 1) cap (tls 1 (P.take (i + 1))) := Tl.of (n := o + (size - 1)) (by rw [HTK.out, tls_append, tls_one]; simpa [u8s] using hown2) hlen2
      have hkp2 : Keeps (fun k => k = w.heap.size + 1 + 1) w1 w2 := HKP.out.trans ((Keeps.of_grown hgr2).mono fun k _ e => (Option.some.inj e).symm)
      have HTL2 := hid htl2
      have HKP2 := hid hkp2
      have HLE2 := hid hlen2
      clear hown2 hgr2 htl2 hkp2 hlen2
      go_wp2
      go_roundw
      case rel => exact ⟨i + 1, _, by omega, by go_num, rfl, HLE2.out, HTL2.out, HKP2.out⟩
      case measure => simp [intOf]; omega
    · obtain rfl : i = m := by omega
      have hPt : P.take i = P := by rw [← HMM.out, List.take_length]
      rw [hPt] at ho htl
      have hc0 := hkp.cl HR0.out (by omega)
      have hc1 : Cl wr (w.heap.size + 1) 31 [.int .i64 (size : Int), .int .i64 1, .slice none 0 0, .slice none 0 0] := by have := hkp.cl HR1.out (by simp); simpa using this
      have c00 := hc0.cell 0 (by simp)
      have c01 := hc0.cell 1 (by simp)
      have c02 := hc0.cell 2 (by simp)
      have c03 := hc0.cell 3 (by simp)
      have f00 := hc0.frozen 0
      have f01 := hc0.frozen 1
      have f02 := hc0.frozen 2
      have f03 := hc0.frozen 3
      have c10 := hc1.cell 0 (by simp)
      have c11 := hc1.cell 1 (by simp)
      have c12 := hc1.cell 2 (by simp)
      have c13 := hc1.cell 3 (by simp)
      have f12 := hc1.frozen 2
      have f13 := hc1.frozen 3
      simp only [List.getElem_cons_succ, List.getElem_cons_zero] at c00 c01 c02 c03 f00 f01 f02 f03 c10 c11 c12 c13 f12 f13
      have HTL2 := hid htl
      have HKP := hid hkp
      have HOL := hid ho
      have HB := hid hbl
      have HCC0 := hid hc0
      have HCC1 := hid hc1
      clear htl hkp ho hbl hps hPt hc0 hc1 hol
      have hk1 : Keeps (fun k => k = w.heap.size + 1) wr (wr.setCell ⟨w.heap.size + 1, 3, none⟩ (.slice (some ⟨w.heap.size + 1 + 1, 0, none⟩) o cap)) := Keeps.set _ _ _ rfl
      have HK1 := hid hk1
      have hwr : w.heap.size + 1 + 1 < wr.heap.size := HTL2.out.lt
      clear hk1
      go_wp2_with (at_make; refine wpList_make_full _ rfl _ _ 29 rfl 0 23 i23 _ 1 Yba.underlying29 hi23 hz230 hz231 _ _ _ _ 257 rfl rfl ?_ ?_ ?_ ?_ ?_ ?_)
      · rfl
      · rfl
      · rw [hz232]; decide
      · decide
      · exact Nat.zero_le _
      intro w4 hown4 hgr4
      obtain ⟨cs4, hcl4, hl4, htk4, _⟩ := cl_of_own hown4
      have hz := zeros_cl hcl4 hl4 htk4
      have hk4 : Keeps (fun k => k = w.heap.size + 1) wr w4 := HK1.out.trans ((Keeps.of_grown hgr4).mono fun k _ e => by cases e)
      have hr1' := grown_cl hgr4 (Cl.set HCC1.out 3 (.slice (some ⟨w.heap.size + 1 + 1, 0, none⟩) o cap)) (by simp)
      have HZ := hid hz
      have HK4 := hid hk4
      have HR1' := hid hr1'
      clear hown4 hgr4 hcl4 hl4 htk4 hz hk4 hr1' c00 c01 c02 c03 f00 f01 f02 f03 c10 c11 c12 c13 f12 f13
      obtain ⟨sb, hsb⟩ : ∃ sb, wr.heap.size = sb := ⟨_, rfl⟩
      rw [hsb] at HZ hwr ⊢
      go_wp2
      go_loopw [14, 50] (fun _ iv wr' => ∃ i' : Nat, i' ≤ i ∧ iv = .int .i64 (i' : Int) ∧ Cl wr' sb 23 (u32s 257 (cn1 1 (P.take i'))) ∧ Keeps (fun k => k = sb) w4 wr') (fun _ iv _ => i - (intOf iv).toNat)
      case atStart => exact ⟨0, Nat.zero_le _, rfl, by have := HZ.out; exact this, Keeps.refl _ _⟩
      case round =>
        obtain ⟨i', hi', rfl, hst, hkp⟩ := hrel
        have hbl2 : Below w.heap.size w wr := (HB.out.trans (HK4.out.below HB.out.size fun k e => by omega)).trans (hkp.below (Nat.le_trans HB.out.size HK4.out.size) fun k e => by omega)
        by_cases him : i' < i
        · have hiP : i' < P.length := by rw [HMM.out]; exact him
          obtain ⟨b, off, g, cc, rfl, hcell, hrd, hcc, hcm2, hblt, hglt⟩ := (HPS.out.below hbl2).at_ i' hiP
          obtain ⟨p, hp⟩ : ∃ p, P[i'] = p := ⟨_, rfl⟩
          rw [hp] at hrd
          have hpo : Okp size p := by rw [← hp]; exact HPS.out.ok _ (List.getElem_mem hiP)
          have htk : P.take (i' + 1) = P.take i' ++ [p] := by rw [List.take_add_one, List.getElem?_eq_getElem hiP, hp]; rfl
          have hbk : bkt 1 p < 256 := bkt_lt hpo (by omega)
          obtain ⟨bk, hbk'⟩ : ∃ bk, bkt 1 p = bk := ⟨_, rfl⟩
          have hcall := bucket_any g 0 cc 1 p wr hrd hpo.2 (by rw [hpo.1]; omega) (by decide) (by rw [hpo.1]; exact hs)
          rw [hpo.1, hbk'] at hcall
          rw [hbk'] at hbk
          have hcs := hst.cell (bk + 1) (by rw [u32s_len]; omega)
          rw [u32s_at] at hcs
          have hfs := hst.frozen (bk + 1)
          obtain ⟨cv, hcv⟩ : ∃ cv, cn1 1 (P.take i') (bk + 1) = cv := ⟨_, rfl⟩
          rw [hcv] at hcs
          have hcs2 : wr.cell? ⟨sb, bk + 1, none⟩ = some (.int .u32 (cv : Int)) := hcs
          have hcvl : cv ≤ 1048576 := by rw [← hcv]; exact Nat.le_trans (cn1_le _ _ _) (by rw [List.length_take]; omega)
          have hnew := hst.set (bk + 1) (Bld.u32 (cv + 1))
          rw [u32s_set 257 (cn1 1 (P.take i')) (cn1 1 (P.take (i' + 1))) (bk + 1) (cv + 1) (by rw [htk, cn1_snoc, hbk', if_pos rfl, hcv]) (fun j hj => by rw [htk, cn1_snoc, hbk', if_neg (fun e => hj e.symm)])] at hnew
          have hkp' : Keeps (fun k => k = sb) w4 (wr.setCell ⟨sb, bk + 1, none⟩ (Bld.u32 (cv + 1))) := hkp.trans (Keeps.set _ _ _ rfl)
          have HCA := hid hcall
          have HNW := hid hnew
          have HKP' := hid hkp'
          clear hst hkp hbl2 hrd hp hpo htk hbk' hcall hcs hnew hkp' hcv
          go_wp2_with fail
          refine HCA.out.mono ?_
          rintro e w5 ⟨rfl, rfl⟩
          go_wp2
          go_roundw
          case rel => exact ⟨i' + 1, by omega, by go_num, HNW.out, HKP'.out⟩
          case measure => simp [intOf]; omega
        · obtain rfl : i' = i := by omega
          have hPt : P.take i' = P := by rw [← HMM.out, List.take_length]
          rw [hPt, ← mixS_one] at hst
          have HST := hid hst
          have HKP2 := hid hkp
          clear hst hkp hPt hbl2
          go_wp2
          go_loopw [15] (fun jv wz => ∃ j : Nat, 1 ≤ j ∧ j ≤ 257 ∧ jv = .int .i64 (j : Int) ∧ Cl wz sb 23 (u32s 257 (mixS 1 P j)) ∧ Keeps (fun k => k = sb) w4 wz) (fun jv _ => 257 - (intOf jv).toNat)
          case atStart => exact ⟨1, Nat.le_refl _, by decide, rfl, HST.out, HKP2.out⟩
          case round =>
            obtain ⟨j, hj1, hj2, rfl, hst, hkp⟩ := hrel
            by_cases hjN : j < 257
            · have hc1 := hst.cell j (by rw [u32s_len]; omega)
              have hc2 := hst.cell (j - 1) (by rw [u32s_len]; omega)
              rw [u32s_at] at hc1 hc2
              have hfs := hst.frozen j
              obtain ⟨v1, hv1⟩ : ∃ v1, mixS 1 P j j = v1 := ⟨_, rfl⟩
              obtain ⟨v2, hv2⟩ : ∃ v2, mixS 1 P j (j - 1) = v2 := ⟨_, rfl⟩
              rw [hv1] at hc1
              rw [hv2] at hc2
              have hv1' : cn1 1 P j = v1 := by rw [← hv1]; unfold mixS; rw [if_neg (by omega)]
              have hv2' : cnt 1 P (j - 1) = v2 := by rw [← hv2]; unfold mixS; rw [if_pos (by omega)]
              have hb1 : v1 ≤ 1048576 := by rw [← hv1']; exact Nat.le_trans (cn1_le _ _ _) (by rw [HMM.out]; exact hm)
              have hb2 : v2 ≤ 1048576 := by rw [← hv2']; exact Nat.le_trans (cnt_le _ _ _) (by rw [HMM.out]; exact hm)
              have hnew := hst.set j (Bld.u32 (v1 + v2))
              rw [u32s_set 257 (mixS 1 P j) (mixS 1 P (j + 1)) j (v1 + v2) (by rw [mixS_step _ _ _ _ hj1, if_pos rfl, hv1', hv2']) (fun x hx => by rw [mixS_step _ _ _ _ hj1, if_neg hx])] at hnew
              have hkp' : Keeps (fun k => k = sb) w4 (wr.setCell ⟨sb, j, none⟩ (Bld.u32 (v1 + v2))) := hkp.trans (Keeps.set _ _ _ rfl)
              obtain ⟨jp, hjp⟩ : ∃ jp, j = jp + 1 := ⟨j - 1, by omega⟩
              subst hjp
              rw [Nat.add_sub_cancel] at hc2
              have d1 : wr.cell? ⟨sb, jp + 1, none⟩ = some (.int .u32 (v1 : Int)) := hc1
              have d2 : wr.cell? ⟨sb, jp, none⟩ = some (.int .u32 (v2 : Int)) := hc2
              rw [show Bld.u32 (v1 + v2) = .int .u32 ((v1 : Int) + (v2 : Int)) from by simp [Bld.u32]] at hnew hkp'
              have HNW := hid hnew
              have HKP' := hid hkp'
              have hjI : (jp : Int) + 1 ≤ 256 := by omega
              have HJN := hid hjN
              clear hst hkp hnew hkp' hv1 hv2 hv1' hv2' hc1 hc2 hjN hj1 hj2
              go_wp2
              go_region
              all_goals
                go_wp2
                exact ⟨⟨jp + 1 + 1, by omega, by have := HJN.out; omega, by go_num, HNW.out, HKP'.out.trans (Keeps.of_drawn (drawn_one _) _)⟩, by simp [intOf]; omega⟩
            · obtain rfl : j = 257 := by omega
              rw [mixS_end] at hst
              have hq0 := hkp.cl (HK4.out.cl HCC0.out (by omega)) (by omega)
              have hq1 := hkp.cl HR1'.out (by omega)
              simp only [List.set_cons_succ, List.set_cons_zero] at hq1
              have c00 := hq0.cell 0 (by simp)
              have c01 := hq0.cell 1 (by simp)
              have c02 := hq0.cell 2 (by simp)
              have c03 := hq0.cell 3 (by simp)
              have f00 := hq0.frozen 0
              have f01 := hq0.frozen 1
              have f02 := hq0.frozen 2
              have f03 := hq0.frozen 3
              have c10 := hq1.cell 0 (by simp)
              have c11 := hq1.cell 1 (by simp)
              have c12 := hq1.cell 2 (by simp)
              have c13 := hq1.cell 3 (by simp)
              have f12 := hq1.frozen 2
              simp only [List.getElem_cons_succ, List.getElem_cons_zero] at c00 c01 c02 c03 c10 c11 c12 c13
              have hk1 : Keeps (fun k => k = w.heap.size + 1) wr (wr.setCell ⟨w.heap.size + 1, 2, none⟩ (.slice (some ⟨sb, 0, none⟩) 257 257)) := Keeps.set _ _ _ rfl
              obtain ⟨hf, hk2⟩ := filled (hk1.cl hq0 (by omega)) (.int .i64 (size : Int)) (.int .i64 1) (.slice (some ⟨sb, 0, none⟩) 257 257) (.slice (some ⟨w.heap.size + 1 + 1, 0, none⟩) o cap)
              have hall := (hk1.mono (N := fun k => w.heap.size ≤ k ∧ k ≤ w.heap.size + 1) fun k _ e => by omega).trans (hk2.mono fun k _ e => by omega)
              have htl := HTL2.out.same ((hkp.block _ (Nat.lt_of_lt_of_le HTL2.out.lt HK4.out.size) (by omega)).trans (HK4.out.block _ HTL2.out.lt (by omega)))
              have hbl2 : Below w.heap.size w wr := (HB.out.trans (HK4.out.below HB.out.size fun k e => by omega)).trans (hkp.below (Nat.le_trans HB.out.size HK4.out.size) fun k e => by omega)
              have hlen : len size 1 P = o := by rw [← HOL.out, tls_len HPS.out.ok]; rfl
              have hcap : (tls 1 P).length ≤ cap := by
                rw [HOL.out]
                obtain ⟨cs, h1, h2, h3⟩ := HTL2.out
                have := congrArg List.length h3
                rw [List.length_take, u8s_len, HOL.out] at this
                omega
              have hfin : GrpPost w size 1 P (.returned (.agg #[.int .i64 (size : Int), .int .i64 1, .slice (some ⟨sb, 0, none⟩) 257 257, .slice (some ⟨w.heap.size + 1 + 1, 0, none⟩) o cap])) _ := ⟨w.heap.size + 1 + 1, cap, sb, by rw [hlen]; rfl, ⟨htl.same (hall.block _ htl.lt (by omega)), fun _ => hall.cl hst (by omega), ⟨by omega, fun _ => by omega⟩, hbl2.trans (hall.below hbl2.size fun k h => h.1), hcap, hcm⟩⟩
              have HFIN := hid hfin
              have HF := hid hf
              clear hst hkp hq0 hq1 hk1 hf hk2 hall htl hbl2 hlen hcap hfin
              go_wp2
              exact bodyPost_ret (results8 _ _ w.heap.size _ _ _ _ rfl (HF.out.cell 0 (by simp)) (HF.out.cell 1 (by simp)) (HF.out.cell 2 (by simp)) (HF.out.cell 3 (by simp))) rfl HFIN.out
set_option maxHeartbeats 2000000 in
set_option maxRecDepth 100000 in
theorem group_two (ao : Option Addr) (c size : Nat) (P : List Bs) (w : World) (h : Ps w ao size P) (hm : P.length ≤ 1048576) (hs1 : 2 < size) (hs : size ≤ 4) :
    Calls Yba.prog 8 #[.slice ao P.length c, .int .i64 (size : Int), .int .i64 ((2 : Nat) : Int)] w (GrpPost w size 2 P) := by
  obtain ⟨i5, hi5, hz50, hz51, hz52⟩ := info_parts Yba.rowInfo5
  obtain ⟨i23, hi23, hz230, hz231, hz232⟩ := info_parts Yba.rowInfo23
  obtain ⟨m, hmm⟩ : ∃ m, P.length = m := ⟨_, rfl⟩
  obtain ⟨nn, hnn⟩ : ∃ nn, size - 2 = nn := ⟨_, rfl⟩
  obtain ⟨cap, hc⟩ : ∃ cap, m * nn = cap := ⟨_, rfl⟩
  have hcm : cap ≤ 4194304 := by rw [← hc, ← hmm]; exact Nat.le_trans (Nat.mul_le_mul hm (show _ ≤ 4 by omega)) (by decide)
  have hnn1 : (size : Int) - 2 = (nn : Int) := by omega
  have hmul : (m : Int) * (nn : Int) = (cap : Int) := by rw [← hc, Int.natCast_mul]
  have HPS := hid h
  rw [hmm] at hm ⊢
  have HMM := hid hmm
  have HC := hid hc
  have HNN := hid hnn
  clear h hmm hc hnn
  go_enter Yba.func8, Yba.ntmps8
  go_wp2_with (at_make; refine wpList_make_own _ rfl _ _ 22 rfl 0 5 i5 _ 1 Yba.underlying22 hi5 hz50 hz51 _ _ _ cap rfl rfl ?_ ?_ ?_ ?_ ?_)
  · rfl
  · rw [hz52]; omega
  · simp only [maxLen]; omega
  · exact Nat.zero_le _
  intro w1 hown hgr
  have hb0 : Below w.heap.size w ((w.alloc (.cells #[.int .i64 0, .int .i64 0, .slice none 0 0, .slice none 0 0] 31)).alloc (.cells #[.int .i64 (size : Int), .int .i64 2, .slice none 0 0, .slice none 0 0] 31)) := ((Below.refl _ w).alloc (Nat.le_refl _) _).alloc (by simp) _
  have hb1 : Below w.heap.size w w1 := hb0.grown hgr (by simp; omega) (by simp)
  have htl : Tl w1 (w.heap.size + 1 + 1) cap (tls 2 (P.take 0)) := Tl.of (n := 0) (by simpa [tls, u8s] using hown) rfl
  have hr0 := grown_cl hgr (grown_cl (row := none) (World.grownBy_alloc _ _ _) (Cl.new w 31 #[.int .i64 0, .int .i64 0, .slice none 0 0, .slice none 0 0]) (by simp)) (by simp)
  have hr1 := grown_cl hgr (Cl.new (w.alloc (.cells #[.int .i64 0, .int .i64 0, .slice none 0 0, .slice none 0 0] 31)) 31 #[.int .i64 (size : Int), .int .i64 2, .slice none 0 0, .slice none 0 0]) (by simp)
  have HB1 := hid hb1
  have HTL := hid htl
  have HR0 := hid hr0
  have HR1 := hid hr1
  clear hown hgr hb0 hb1 htl hr0 hr1
  go_wp2
  go_loopw [8, 10, 28] (fun tv _ iv wr => ∃ i o : Nat, i ≤ m ∧ iv = .int .i64 (i : Int) ∧ tv = .slice (some ⟨w.heap.size + 1 + 1, 0, none⟩) o cap ∧ (tls 2 (P.take i)).length = o ∧ Tl wr (w.heap.size + 1 + 1) cap (tls 2 (P.take i)) ∧ Keeps (fun k => k = w.heap.size + 1 + 1) w1 wr) (fun _ _ iv _ => m - (intOf iv).toNat)
  case atStart => exact ⟨0, 0, Nat.zero_le _, rfl, rfl, by simp [tls], HTL.out, Keeps.refl _ _⟩
  case round =>
    obtain ⟨i, o, hi, rfl, rfl, ho, htl, hkp⟩ := hrel
    have hbl : Below w.heap.size w wr := HB1.out.trans (hkp.below HB1.out.size fun k e => by omega)
    have hps := HPS.out.below hbl
    have hol : o = i * nn := by
      rw [← ho, tls_len (size := size) (fun p hp => HPS.out.ok p (List.mem_of_mem_take hp)), HNN.out, List.length_take, HMM.out, Nat.min_eq_left hi]
    by_cases him : i < m
    · have hiP : i < P.length := by rw [HMM.out]; exact him
      obtain ⟨b, off, g, cc, rfl, hcell, hrd, hcc, hcm2, hblt, hglt⟩ := hps.at_ i hiP
      obtain ⟨p, hp⟩ : ∃ p, P[i] = p := ⟨_, rfl⟩
      rw [hp] at hrd
      have hpo : Okp size p := by rw [← hp]; exact HPS.out.ok _ (List.getElem_mem hiP)
      have hfit : o + nn ≤ cap := by
        have h1 : (i + 1) * nn ≤ m * nn := Nat.mul_le_mul_right _ him
        rw [HC.out, Nat.add_mul] at h1
        omega
      have hown := htl.own (by omega) hcm
      rw [ho] at hown
      have hnl : (u8s (p.drop 2)).length = (size - 2) * 1 := by rw [u8s_len, List.length_drop, hpo.1, Nat.mul_one]
      have hrdd : Rd wr g 2 (p.drop 2) := by have := hrd.drop 2; rwa [Nat.zero_add] at this
      have hrc := rd_cells hrdd
      have hfit2 : o + (size - 2) ≤ cap := by have := HNN.out; omega
      have hcl1 : ¬ cc = 2 := by omega
      have hcl2 : (2 : Int) ≤ (size : Int) := by omega
      have hcl3 : (size : Int) ≤ (cc : Int) := by omega
      have htk : P.take (i + 1) = P.take i ++ [p] := by rw [List.take_add_one, List.getElem?_eq_getElem hiP, hp]; rfl
      have HO := hid hown
      have HRC := hid hrc
      have HKP := hid hkp
      have HTK := hid htk
      have HOL := hid ho
      have HPO := hid hpo
      have hol2 : (o : Int) ≤ 4194304 := by omega
      clear hown hrc hkp htk ho hpo hbl hps hp hrd hrdd htl hol hfit
      go_wp2_with (at_builtin; refine wpList_append_fits_any _ rfl _ _ 22 rfl 0 5 i5 1 Yba.underlying22 hi5 hz51 (w.heap.size + 1 + 1) o cap (u8s (tls 2 (P.take i))) rfl HO.out (some ⟨g, 2, none⟩) ((size - 2)) (cc - 2) (u8s (p.drop 2)) rfl hnl (by simp) HRC.out (u8_one _) hfit2 ?_)
      intro w2 hown2 hgr2
      have hlen2 : (tls 2 (P.take (i + 1))).length = o + (size - 2) := by
        rw [HTK.out, tls_append, List.length_append, HOL.out, tls_one, List.length_drop, HPO.out.1]
      have htl2 : Tl w2 (w.heap.size + 1 + 1) cap (tls 2 (P.take (i + 1))) := Tl.of (n := o + (size - 2)) (by rw [HTK.out, tls_append, tls_one]; simpa [u8s] using hown2) hlen2
      have hkp2 : Keeps (fun k => k = w.heap.size + 1 + 1) w1 w2 := HKP.out.trans ((Keeps.of_grown hgr2).mono fun k _ e => (Option.some.inj e).symm)
      have HTL2 := hid htl2
      have HKP2 := hid hkp2
      have HLE2 := hid hlen2
      clear hown2 hgr2 htl2 hkp2 hlen2
      go_wp2
      go_roundw
      case rel => exact ⟨i + 1, _, by omega, by go_num, rfl, HLE2.out, HTL2.out, HKP2.out⟩
      case measure => simp [intOf]; omega
    · obtain rfl : i = m := by omega
      have hPt : P.take i = P := by rw [← HMM.out, List.take_length]
      rw [hPt] at ho htl
      have hc0 := hkp.cl HR0.out (by omega)
      have hc1 : Cl wr (w.heap.size + 1) 31 [.int .i64 (size : Int), .int .i64 2, .slice none 0 0, .slice none 0 0] := by have := hkp.cl HR1.out (by simp); simpa using this
      have c00 := hc0.cell 0 (by simp)
      have c01 := hc0.cell 1 (by simp)
      have c02 := hc0.cell 2 (by simp)
      have c03 := hc0.cell 3 (by simp)
      have f00 := hc0.frozen 0
      have f01 := hc0.frozen 1
      have f02 := hc0.frozen 2
      have f03 := hc0.frozen 3
      have c10 := hc1.cell 0 (by simp)
      have c11 := hc1.cell 1 (by simp)
      have c12 := hc1.cell 2 (by simp)
      have c13 := hc1.cell 3 (by simp)
      have f12 := hc1.frozen 2
      have f13 := hc1.frozen 3
      simp only [List.getElem_cons_succ, List.getElem_cons_zero] at c00 c01 c02 c03 f00 f01 f02 f03 c10 c11 c12 c13 f12 f13
      have HTL2 := hid htl
      have HKP := hid hkp
      have HOL := hid ho
      have HB := hid hbl
      have HCC0 := hid hc0
      have HCC1 := hid hc1
      clear htl hkp ho hbl hps hPt hc0 hc1 hol
      have hk1 : Keeps (fun k => k = w.heap.size + 1) wr (wr.setCell ⟨w.heap.size + 1, 3, none⟩ (.slice (some ⟨w.heap.size + 1 + 1, 0, none⟩) o cap)) := Keeps.set _ _ _ rfl
      have HK1 := hid hk1
      have hwr : w.heap.size + 1 + 1 < wr.heap.size := HTL2.out.lt
      clear hk1
      go_wp2_with (at_make; refine wpList_make_full _ rfl _ _ 29 rfl 0 23 i23 _ 1 Yba.underlying29 hi23 hz230 hz231 _ _ _ _ 65537 rfl rfl ?_ ?_ ?_ ?_ ?_ ?_)
      · rfl
      · rfl
      · rw [hz232]; decide
      · decide
      · exact Nat.zero_le _
      intro w4 hown4 hgr4
      obtain ⟨cs4, hcl4, hl4, htk4, _⟩ := cl_of_own hown4
      have hz := zeros_cl hcl4 hl4 htk4
      have hk4 : Keeps (fun k => k = w.heap.size + 1) wr w4 := HK1.out.trans ((Keeps.of_grown hgr4).mono fun k _ e => by cases e)
      have hr1' := grown_cl hgr4 (Cl.set HCC1.out 3 (.slice (some ⟨w.heap.size + 1 + 1, 0, none⟩) o cap)) (by simp)
      have HZ := hid hz
      have HK4 := hid hk4
      have HR1' := hid hr1'
      clear hown4 hgr4 hcl4 hl4 htk4 hz hk4 hr1' c00 c01 c02 c03 f00 f01 f02 f03 c10 c11 c12 c13 f12 f13
      obtain ⟨sb, hsb⟩ : ∃ sb, wr.heap.size = sb := ⟨_, rfl⟩
      rw [hsb] at HZ hwr ⊢
      go_wp2
      go_loopw [14, 50] (fun _ iv wr' => ∃ i' : Nat, i' ≤ i ∧ iv = .int .i64 (i' : Int) ∧ Cl wr' sb 23 (u32s 65537 (cn1 2 (P.take i'))) ∧ Keeps (fun k => k = sb) w4 wr') (fun _ iv _ => i - (intOf iv).toNat)
      case atStart => exact ⟨0, Nat.zero_le _, rfl, by have := HZ.out; exact this, Keeps.refl _ _⟩
      case round =>
        obtain ⟨i', hi', rfl, hst, hkp⟩ := hrel
        have hbl2 : Below w.heap.size w wr := (HB.out.trans (HK4.out.below HB.out.size fun k e => by omega)).trans (hkp.below (Nat.le_trans HB.out.size HK4.out.size) fun k e => by omega)
        by_cases him : i' < i
        · have hiP : i' < P.length := by rw [HMM.out]; exact him
          obtain ⟨b, off, g, cc, rfl, hcell, hrd, hcc, hcm2, hblt, hglt⟩ := (HPS.out.below hbl2).at_ i' hiP
          obtain ⟨p, hp⟩ : ∃ p, P[i'] = p := ⟨_, rfl⟩
          rw [hp] at hrd
          have hpo : Okp size p := by rw [← hp]; exact HPS.out.ok _ (List.getElem_mem hiP)
          have htk : P.take (i' + 1) = P.take i' ++ [p] := by rw [List.take_add_one, List.getElem?_eq_getElem hiP, hp]; rfl
          have hbk : bkt 2 p < 65536 := bkt_lt hpo (by omega)
          obtain ⟨bk, hbk'⟩ : ∃ bk, bkt 2 p = bk := ⟨_, rfl⟩
          have hcall := bucket_any g 0 cc 2 p wr hrd hpo.2 (by rw [hpo.1]; omega) (by decide) (by rw [hpo.1]; exact hs)
          rw [hpo.1, hbk'] at hcall
          rw [hbk'] at hbk
          have hcs := hst.cell (bk + 1) (by rw [u32s_len]; omega)
          rw [u32s_at] at hcs
          have hfs := hst.frozen (bk + 1)
          obtain ⟨cv, hcv⟩ : ∃ cv, cn1 2 (P.take i') (bk + 1) = cv := ⟨_, rfl⟩
          rw [hcv] at hcs
          have hcs2 : wr.cell? ⟨sb, bk + 1, none⟩ = some (.int .u32 (cv : Int)) := hcs
          have hcvl : cv ≤ 1048576 := by rw [← hcv]; exact Nat.le_trans (cn1_le _ _ _) (by rw [List.length_take]; omega)
          have hnew := hst.set (bk + 1) (Bld.u32 (cv + 1))
          rw [u32s_set 65537 (cn1 2 (P.take i')) (cn1 2 (P.take (i' + 1))) (bk + 1) (cv + 1) (by rw [htk, cn1_snoc, hbk', if_pos rfl, hcv]) (fun j hj => by rw [htk, cn1_snoc, hbk', if_neg (fun e => hj e.symm)])] at hnew
          have hkp' : Keeps (fun k => k = sb) w4 (wr.setCell ⟨sb, bk + 1, none⟩ (Bld.u32 (cv + 1))) := hkp.trans (Keeps.set _ _ _ rfl)
          have HCA := hid hcall
          have HNW := hid hnew
          have HKP' := hid hkp'
          clear hst hkp hbl2 hrd hp hpo htk hbk' hcall hcs hnew hkp' hcv
          go_wp2_with fail
          refine HCA.out.mono ?_
          rintro e w5 ⟨rfl, rfl⟩
          go_wp2
          go_roundw
          case rel => exact ⟨i' + 1, by omega, by go_num, HNW.out, HKP'.out⟩
          case measure => simp [intOf]; omega
        · obtain rfl : i' = i := by omega
          have hPt : P.take i' = P := by rw [← HMM.out, List.take_length]
          rw [hPt, ← mixS_one] at hst
          have HST := hid hst
          have HKP2 := hid hkp
          clear hst hkp hPt hbl2
          go_wp2
          go_loopw [15] (fun jv wz => ∃ j : Nat, 1 ≤ j ∧ j ≤ 65537 ∧ jv = .int .i64 (j : Int) ∧ Cl wz sb 23 (u32s 65537 (mixS 2 P j)) ∧ Keeps (fun k => k = sb) w4 wz) (fun jv _ => 65537 - (intOf jv).toNat)
          case atStart => exact ⟨1, Nat.le_refl _, by decide, rfl, HST.out, HKP2.out⟩
          case round =>
            obtain ⟨j, hj1, hj2, rfl, hst, hkp⟩ := hrel
            by_cases hjN : j < 65537
            · have hc1 := hst.cell j (by rw [u32s_len]; omega)
              have hc2 := hst.cell (j - 1) (by rw [u32s_len]; omega)
              rw [u32s_at] at hc1 hc2
              have hfs := hst.frozen j
              obtain ⟨v1, hv1⟩ : ∃ v1, mixS 2 P j j = v1 := ⟨_, rfl⟩
              obtain ⟨v2, hv2⟩ : ∃ v2, mixS 2 P j (j - 1) = v2 := ⟨_, rfl⟩
              rw [hv1] at hc1
              rw [hv2] at hc2
              have hv1' : cn1 2 P j = v1 := by rw [← hv1]; unfold mixS; rw [if_neg (by omega)]
              have hv2' : cnt 2 P (j - 1) = v2 := by rw [← hv2]; unfold mixS; rw [if_pos (by omega)]
              have hb1 : v1 ≤ 1048576 := by rw [← hv1']; exact Nat.le_trans (cn1_le _ _ _) (by rw [HMM.out]; exact hm)
              have hb2 : v2 ≤ 1048576 := by rw [← hv2']; exact Nat.le_trans (cnt_le _ _ _) (by rw [HMM.out]; exact hm)
              have hnew := hst.set j (Bld.u32 (v1 + v2))
              rw [u32s_set 65537 (mixS 2 P j) (mixS 2 P (j + 1)) j (v1 + v2) (by rw [mixS_step _ _ _ _ hj1, if_pos rfl, hv1', hv2']) (fun x hx => by rw [mixS_step _ _ _ _ hj1, if_neg hx])] at hnew
              have hkp' : Keeps (fun k => k = sb) w4 (wr.setCell ⟨sb, j, none⟩ (Bld.u32 (v1 + v2))) := hkp.trans (Keeps.set _ _ _ rfl)
              obtain ⟨jp, hjp⟩ : ∃ jp, j = jp + 1 := ⟨j - 1, by omega⟩
              subst hjp
              rw [Nat.add_sub_cancel] at hc2
              have d1 : wr.cell? ⟨sb, jp + 1, none⟩ = some (.int .u32 (v1 : Int)) := hc1
              have d2 : wr.cell? ⟨sb, jp, none⟩ = some (.int .u32 (v2 : Int)) := hc2
              rw [show Bld.u32 (v1 + v2) = .int .u32 ((v1 : Int) + (v2 : Int)) from by simp [Bld.u32]] at hnew hkp'
              have HNW := hid hnew
              have HKP' := hid hkp'
              have hjI : (jp : Int) + 1 ≤ 65536 := by omega
              have HJN := hid hjN
              clear hst hkp hnew hkp' hv1 hv2 hv1' hv2' hc1 hc2 hjN hj1 hj2
              go_wp2
              go_region
              all_goals
                go_wp2
                exact ⟨⟨jp + 1 + 1, by omega, by have := HJN.out; omega, by go_num, HNW.out, HKP'.out.trans (Keeps.of_drawn (drawn_one _) _)⟩, by simp [intOf]; omega⟩
            · obtain rfl : j = 65537 := by omega
              rw [mixS_end] at hst
              have hq0 := hkp.cl (HK4.out.cl HCC0.out (by omega)) (by omega)
              have hq1 := hkp.cl HR1'.out (by omega)
              simp only [List.set_cons_succ, List.set_cons_zero] at hq1
              have c00 := hq0.cell 0 (by simp)
              have c01 := hq0.cell 1 (by simp)
              have c02 := hq0.cell 2 (by simp)
              have c03 := hq0.cell 3 (by simp)
              have f00 := hq0.frozen 0
              have f01 := hq0.frozen 1
              have f02 := hq0.frozen 2
              have f03 := hq0.frozen 3
              have c10 := hq1.cell 0 (by simp)
              have c11 := hq1.cell 1 (by simp)
              have c12 := hq1.cell 2 (by simp)
              have c13 := hq1.cell 3 (by simp)
              have f12 := hq1.frozen 2
              simp only [List.getElem_cons_succ, List.getElem_cons_zero] at c00 c01 c02 c03 c10 c11 c12 c13
              have hk1 : Keeps (fun k => k = w.heap.size + 1) wr (wr.setCell ⟨w.heap.size + 1, 2, none⟩ (.slice (some ⟨sb, 0, none⟩) 65537 65537)) := Keeps.set _ _ _ rfl
              obtain ⟨hf, hk2⟩ := filled (hk1.cl hq0 (by omega)) (.int .i64 (size : Int)) (.int .i64 2) (.slice (some ⟨sb, 0, none⟩) 65537 65537) (.slice (some ⟨w.heap.size + 1 + 1, 0, none⟩) o cap)
              have hall := (hk1.mono (N := fun k => w.heap.size ≤ k ∧ k ≤ w.heap.size + 1) fun k _ e => by omega).trans (hk2.mono fun k _ e => by omega)
              have htl := HTL2.out.same ((hkp.block _ (Nat.lt_of_lt_of_le HTL2.out.lt HK4.out.size) (by omega)).trans (HK4.out.block _ HTL2.out.lt (by omega)))
              have hbl2 : Below w.heap.size w wr := (HB.out.trans (HK4.out.below HB.out.size fun k e => by omega)).trans (hkp.below (Nat.le_trans HB.out.size HK4.out.size) fun k e => by omega)
              have hlen : len size 2 P = o := by rw [← HOL.out, tls_len HPS.out.ok]; rfl
              have hcap : (tls 2 P).length ≤ cap := by
                rw [HOL.out]
                obtain ⟨cs, h1, h2, h3⟩ := HTL2.out
                have := congrArg List.length h3
                rw [List.length_take, u8s_len, HOL.out] at this
                omega
              have hfin : GrpPost w size 2 P (.returned (.agg #[.int .i64 (size : Int), .int .i64 2, .slice (some ⟨sb, 0, none⟩) 65537 65537, .slice (some ⟨w.heap.size + 1 + 1, 0, none⟩) o cap])) _ := ⟨w.heap.size + 1 + 1, cap, sb, by rw [hlen]; rfl, ⟨htl.same (hall.block _ htl.lt (by omega)), fun _ => hall.cl hst (by omega), ⟨by omega, fun _ => by omega⟩, hbl2.trans (hall.below hbl2.size fun k h => h.1), hcap, hcm⟩⟩
              have HFIN := hid hfin
              have HF := hid hf
              clear hst hkp hq0 hq1 hk1 hf hk2 hall htl hbl2 hlen hcap hfin
              go_wp2
              exact bodyPost_ret (results8 _ _ w.heap.size _ _ _ _ rfl (HF.out.cell 0 (by simp)) (HF.out.cell 1 (by simp)) (HF.out.cell 2 (by simp)) (HF.out.cell 3 (by simp))) rfl HFIN.out
end Go.Proofs.Ybulkehgw.Grp
