/-
  The builder's add (f11).
-/
import Derived.Test.YbulkehgwBld
namespace Go.Proofs.Ybulkehgw.AddZ
open Go.RowKit Pl Mem Bld

/-- The slice reads as the bytes bs. -/
structure Arg (w : World) (ao : Option Addr) (n cap : Nat) (bs : Bs) : Prop where
  ln : bs.length = n
  le : n ≤ cap
  mx : cap ≤ 4611686018427387904
  nil : ao = none → n = 0 ∧ cap = 0
  rd : 0 < bs.length → ∃ b off, ao = some ⟨b, off, none⟩ ∧ Rd w b off bs
theorem Arg.kept {w w' : World} {ao : Option Addr} {n cap : Nat} {bs : Bs} {M : Nat → Prop} (h : Arg w ao n cap bs) (hK : Keeps M w w') (hm : ∀ b off, ao = some ⟨b, off, none⟩ → 0 < bs.length → ¬ M b) : Arg w' ao n cap bs :=
  ⟨h.ln, h.le, h.mx, h.nil, fun h0 => by
    obtain ⟨b, off, e, hr⟩ := h.rd h0
    exact ⟨b, off, e, hr.same (hK.block b (hr.lt h0) (hm b off e h0))⟩⟩
theorem u8s_at? (bs : Bs) (j : Nat) : (u8s bs)[j]? = bs[j]?.map u8 := by simp [u8s]
theorem Arg.cells {w : World} {ao : Option Addr} {n cap : Nat} {bs : Bs} (h : Arg w ao n cap bs) : ∀ ad, ao = some ad → ∀ j u, (u8s bs)[j]? = some u → w.cell? (ad.add j) = some u := fun ad e j u hj => by
  rw [u8s_at?] at hj
  cases hb : bs[j]? with
  | none => rw [hb] at hj; cases hj
  | some c =>
    rw [hb] at hj
    obtain ⟨hlt, e2⟩ := List.getElem?_eq_some_iff.1 hb
    obtain ⟨b, off, e3, hr⟩ := h.rd (by omega)
    rw [e] at e3
    cases e3
    rw [show (⟨b, off, none⟩ : Addr).add j = ⟨b, off + j, none⟩ from by simp [Addr.add], hr j hlt, e2]
    exact hj

def AddPost (w : World) (bb tb sb size lead cap : Nat) (P : List Bs) (buf : Value) (e : Ending) (w' : World) : Prop :=
  e = .returned (.tuple #[]) ∧ Bd w' bb tb sb size lead cap P buf ∧ Keeps (fun k => k = bb ∨ k = tb ∨ k = sb) w w'

theorem u8_one (bs : Bs) : ∀ u ∈ u8s bs, u.oneCell' = true := by
  intro u hu
  obtain ⟨n, _, rfl⟩ := List.mem_map.1 hu
  rfl
theorem flat_len {size : Nat} : ∀ {Q : List Bs} (_ : ∀ p ∈ Q, Okp size p), Q.flatten.length = Q.length * size
  | [], _ => by simp
  | p :: r, h => by
    rw [List.flatten_cons, List.length_append, flat_len (fun q hq => h q (by simp [hq])), (h p (by simp)).1, List.length_cons, Nat.add_mul]
    omega

set_option maxHeartbeats 1000000 in
theorem add_zero (bb tb sb size cap : Nat) (P Q : List Bs) (buf : Value) (ao : Option Addr) (n pc : Nat) (w : World) (h : Bd w bb tb sb size 0 cap P buf) (ha : Arg w ao n pc Q.flatten) (hP : ∀ p ∈ P ++ Q, Okp size p) (hfit : (P ++ Q).length * (size - 0) ≤ cap) (hcap : cap ≤ 4194304) :
    Calls Yba.prog 11 #[.pointer (some ⟨bb, 0, none⟩), .slice ao n pc] w (AddPost w bb tb sb size 0 cap (P ++ Q) buf) := by
  obtain ⟨i5, hi5, hz50, hz51, hz52⟩ := info_parts Yba.rowInfo5
  obtain ⟨cs, hcl, hcs, htk⟩ := h.tl
  have hql : Q.flatten.length = Q.length * size := flat_len fun p hp => hP p (List.mem_append_right _ hp)
  have hn : n = Q.length * size := by rw [← ha.ln, hql]
  have hpl : len size 0 P + n ≤ cap := by
    rw [hn]
    unfold len
    rw [List.length_append, Nat.sub_zero, Nat.add_mul] at hfit
    simpa using hfit
  have hown : w.ownsRow 0 5 1 (.slice (some ⟨tb, 0, none⟩) (len size 0 P) cap) (len size 0 P) (u8s (tls 0 P)) := own_of_cl hcl (Nat.zero_le _) hcs htk (by omega) (by simp only [maxLen]; omega)
  have c1 := h.hd.cell 1 (by simp)
  have c3 := h.hd.cell 3 (by simp)
  simp only [List.getElem_cons_succ, List.getElem_cons_zero] at c1 c3
  have HB := hid h
  have HA := hid ha
  have HO := hid hown
  have hnl : (u8s Q.flatten).length = n * 1 := by rw [u8s_len, ha.ln, Nat.mul_one]
  have hrd := ha.cells
  have HRD := hid hrd
  have HPL := hid hpl
  have HN := hid hn
  clear h ha hown hcl hcs htk hrd hpl hn hql
  go_enter Yba.func11, Yba.ntmps11
  go_wp2_with (at_builtin; refine wpList_append_fits_any _ rfl _ _ 22 rfl 0 5 i5 1 Yba.underlying22 hi5 hz51 tb (len size 0 P) cap (u8s (tls 0 P)) rfl HO.out ao n pc (u8s Q.flatten) rfl hnl HA.out.nil HRD.out (u8_one _) HPL.out ?_)
  intro w1 hown1 hgr1
  obtain ⟨cs1, hcl1, hcs1, htk1, _⟩ := cl_of_own hown1
  have hK1 : Keeps (fun k => k = bb ∨ k = tb ∨ k = sb) w w1 := (Keeps.of_grown hgr1).mono fun k _ e => .inr (.inl (Option.some.inj e).symm)
  have hne : bb ≠ tb := by
    obtain ⟨cs, hcl, _⟩ := HB.out.tl
    exact Cl.ne HB.out.hd hcl (by decide)
  have hbb := grown_cl hgr1 HB.out.hd (by simpa using hne)
  have d3 := hbb.cell 3 (by simp)
  have f3 := hbb.frozen 3
  simp only [List.getElem_cons_succ, List.getElem_cons_zero] at d3
  have HBB := hid hbb
  have HCL1 := hid hcl1
  have HK1 := hid hK1
  clear hown1 hgr1 hbb hcl1 hK1
  go_wp2
  go_end0
  have hK2 : Keeps (fun k => k = bb) w1 (w1.setCell ⟨bb, 3, none⟩ (.slice (some ⟨tb, 0, none⟩) (len size 0 P + n) cap)) := Keeps.set _ _ _ rfl
  have hlen : len size 0 (P ++ Q) = len size 0 P + n := by
    rw [HN.out]
    unfold len
    rw [List.length_append, Nat.sub_zero, Nat.add_mul]
  refine ⟨rfl, ⟨?_, ⟨cs1, hK2.cl HCL1.out (fun e => hne e.symm), hcs1, ?_⟩, fun h => absurd rfl h⟩, HK1.out.trans (hK2.mono fun _ _ e => .inl e)⟩
  · have := HBB.out.set 3 (.slice (some ⟨tb, 0, none⟩) (len size 0 P + n) cap)
    rw [hlen]
    simpa [nx, stv] using this
  · rw [hlen, htk1, tls_append, tls_zero Q]
    unfold u8s
    rw [List.map_append]

/-- While add runs: the tails hold bs so far, next is x. -/
structure Ad (w0 : World) (bb tb sb size lead cap tot : Nat) (P : List Bs) (buf : Value) (bs : Bs) (x : Nat) (w : World) : Prop where
  hd : Cl w bb 43 [.int .i64 (size : Int), .int .i64 (lead : Int), .slice (some ⟨sb, 0, none⟩) (nb lead) (nb lead), .slice (some ⟨tb, 0, none⟩) tot cap, .int .i64 (x : Int), buf]
  tl : ∃ cs, Cl w tb 5 cs ∧ cs.length = cap ∧ cs.take bs.length = u8s bs
  st : Cl w sb 23 (u32s (nb lead) (stM lead P x))
  kp : Keeps (fun k => k = bb ∨ k = tb ∨ k = sb) w0 w
theorem Ad.ne {w0 : World} {bb tb sb size lead cap tot : Nat} {P : List Bs} {buf : Value} {bs : Bs} {x : Nat} {w : World} (h : Ad w0 bb tb sb size lead cap tot P buf bs x w) : bb ≠ tb ∧ bb ≠ sb ∧ tb ≠ sb := by
  obtain ⟨cs, hcl, _⟩ := h.tl
  exact ⟨Cl.ne h.hd hcl (by decide), Cl.ne h.hd h.st (by decide), Cl.ne hcl h.st (by decide)⟩
theorem Ad.drew {w0 : World} {bb tb sb size lead cap tot : Nat} {P : List Bs} {buf : Value} {bs : Bs} {x : Nat} {w w' : World} (h : Ad w0 bb tb sb size lead cap tot P buf bs x w) (hd : Drawn w w') : Ad w0 bb tb sb size lead cap tot P buf bs x w' := by
  obtain ⟨cs, hcl, h1, h2⟩ := h.tl
  have hb : ∀ k : Nat, w'.heap[k]? = w.heap[k]? := fun k => by rw [hd.heap]
  exact ⟨h.hd.same (hb _), ⟨cs, hcl.same (hb _), h1, h2⟩, h.st.same (hb _), h.kp.trans (Keeps.of_drawn hd _)⟩
/-- g.starts[b.next] = at; b.next++ -/
theorem Ad.step {w0 : World} {bb tb sb size lead cap tot : Nat} {P : List Bs} {buf : Value} {bs : Bs} {x : Nat} {w : World} (h : Ad w0 bb tb sb size lead cap tot P buf bs x w) (hx : nxt lead P ≤ x) :
    Ad w0 bb tb sb size lead cap tot P buf bs (x + 1) ((w.setCell ⟨sb, x, none⟩ (u32 P.length)).setCell ⟨bb, 4, none⟩ (.int .i64 ((x : Int) + 1))) := by
  obtain ⟨n1, n2, n3⟩ := h.ne
  obtain ⟨cs, hcl, h1, h2⟩ := h.tl
  have k1 : Keeps (fun k => k = sb) w (w.setCell ⟨sb, x, none⟩ (u32 P.length)) := Keeps.set _ _ _ rfl
  have k2 : Keeps (fun k => k = bb) (w.setCell ⟨sb, x, none⟩ (u32 P.length)) ((w.setCell ⟨sb, x, none⟩ (u32 P.length)).setCell ⟨bb, 4, none⟩ (.int .i64 ((x : Int) + 1))) := Keeps.set _ _ _ rfl
  refine ⟨?_, ⟨cs, k2.cl (k1.cl hcl n3) (fun e => n1 e.symm), h1, h2⟩, ?_, h.kp.trans ((k1.mono fun _ _ e => .inr (.inr e)).trans (k2.mono fun _ _ e => .inl e))⟩
  · have := (k1.cl h.hd n2).set 4 (.int .i64 ((x : Int) + 1))
    simpa using this
  · have := k2.cl (h.st.set x (u32 P.length)) (fun e => n2 e.symm)
    rwa [u32s_set (nb lead) (stM lead P x) (stM lead P (x + 1)) x P.length (by rw [stM_step _ _ _ _ hx, if_pos rfl]) (fun j hj => by rw [stM_step _ _ _ _ hx, if_neg hj])] at this
theorem take_set {cs : List Value} {bs : Bs} (h : cs.take bs.length = u8s bs) (hl : bs.length < cs.length) (c : Nat) : (cs.set bs.length (u8 c)).take (bs ++ [c]).length = u8s (bs ++ [c]) := by
  rw [List.length_append, List.length_singleton, List.take_add_one, List.getElem?_set_self hl, List.take_set_of_le (Nat.le_refl _), h]
  simp [u8s]
/-- g.tails[o+k] = c -/
theorem Ad.put {w0 : World} {bb tb sb size lead cap tot : Nat} {P : List Bs} {buf : Value} {bs : Bs} {x : Nat} {w : World} (h : Ad w0 bb tb sb size lead cap tot P buf bs x w) (hl : bs.length < cap) (c : Nat) :
    Ad w0 bb tb sb size lead cap tot P buf (bs ++ [c]) x (w.setCell ⟨tb, bs.length, none⟩ (u8 c)) := by
  obtain ⟨n1, n2, n3⟩ := h.ne
  obtain ⟨cs, hcl, h1, h2⟩ := h.tl
  have k1 : Keeps (fun k => k = tb) w (w.setCell ⟨tb, bs.length, none⟩ (u8 c)) := Keeps.set _ _ _ rfl
  exact ⟨k1.cl h.hd n1, ⟨_, hcl.set _ _, by simpa using h1, take_set h2 (by omega) c⟩, k1.cl h.st (fun e => n3 e.symm), h.kp.trans (k1.mono fun _ _ e => .inr (.inl e))⟩
theorem Ad.cells {w0 : World} {bb tb sb size lead cap tot : Nat} {P : List Bs} {buf : Value} {bs : Bs} {x : Nat} {w : World} (h : Ad w0 bb tb sb size lead cap tot P buf bs x w) :
    w.cell? ⟨bb, 0, none⟩ = some (.int .i64 (size : Int)) ∧ w.cell? ⟨bb, 1, none⟩ = some (.int .i64 (lead : Int)) ∧ w.cell? ⟨bb, 2, none⟩ = some (.slice (some ⟨sb, 0, none⟩) (nb lead) (nb lead)) ∧ w.cell? ⟨bb, 3, none⟩ = some (.slice (some ⟨tb, 0, none⟩) tot cap) ∧ w.cell? ⟨bb, 4, none⟩ = some (.int .i64 (x : Int)) ∧ w.frozen? ⟨bb, 4, none⟩ = false :=
  ⟨by simpa using h.hd.cell 0 (by simp), by simpa using h.hd.cell 1 (by simp), by simpa using h.hd.cell 2 (by simp), by simpa using h.hd.cell 3 (by simp), by simpa using h.hd.cell 4 (by simp), h.hd.frozen 4⟩
/-- b.next, read off the world. -/
def nextOf (w : World) (bb : Nat) : Nat := match w.cell? ⟨bb, 4, none⟩ with | some (.int _ x) => x.toNat | _ => 0
theorem Ad.next {w0 : World} {bb tb sb size lead cap tot : Nat} {P : List Bs} {buf : Value} {bs : Bs} {x : Nat} {w : World} (h : Ad w0 bb tb sb size lead cap tot P buf bs x w) : nextOf w bb = x := by
  unfold nextOf
  rw [h.cells.2.2.2.2.1]
  simp
end Go.Proofs.Ybulkehgw.AddZ
