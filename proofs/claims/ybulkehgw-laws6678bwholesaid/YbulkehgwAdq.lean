/-
  The builder's add (f11), its argument of any capacity.
-/
import Derived.Test.YbulkehgwBld
namespace Go.Proofs.Ybulkehgw.Aq
open Go.RowKit Pl Mem Bld

/-- The slice reads as the bytes bs. -/
structure Arg (w : World) (ao : Option Addr) (n cap : Nat) (bs : Bs) : Prop where
  ln : bs.length = n
  le : n ≤ cap
  mx : cap ≤ 9223372036854775807
  nil : ao = none → n = 0 ∧ cap = 0
  rd : 0 < bs.length → ∃ b off, ao = some ⟨b, off, none⟩ ∧ Rd w b off bs
theorem Arg.kept {w w' : World} {ao : Option Addr} {n cap : Nat} {bs : Bs} {M : Nat → Prop} (h : Arg w ao n cap bs) (hK : Keeps M w w') (hm : ∀ b off, ao = some ⟨b, off, none⟩ → 0 < bs.length → ¬ M b) : Arg w' ao n cap bs :=
  ⟨h.ln, h.le, h.mx, h.nil, fun h0 => by
    obtain ⟨b, off, e, hr⟩ := h.rd h0
    exact ⟨b, off, e, hr.same (hK.block b (hr.lt h0) (hm b off e h0))⟩⟩
theorem u8s_at? (bs : Bs) (j : Nat) : (u8s bs)[j]? = bs[j]?.map u8 := by simp [u8s]
theorem Arg.cells {w : World} {ao : Option Addr} {n cap : Nat} {bs : Bs} (h : Arg w ao n cap bs) : ∀ ad, ao = some ad → ∀ j u, (u8s bs)[j]? = some u → w.cell? (ad.add j) = some u := fun ad e j u hj => by
  rw [u8s_at?] at hj
  cases hb : bs[j]? with
  | none => rw [hb] at hj; cases hj
  | some c =>
    rw [hb] at hj
    obtain ⟨hlt, e2⟩ := List.getElem?_eq_some_iff.1 hb
    obtain ⟨b, off, e3, hr⟩ := h.rd (by omega)
    rw [e] at e3
    cases e3
    rw [show (⟨b, off, none⟩ : Addr).add j = ⟨b, off + j, none⟩ from by simp [Addr.add], hr j hlt, e2]
    exact hj

def AddPost (w : World) (bb tb sb size lead cap : Nat) (P : List Bs) (buf : Value) (e : Ending) (w' : World) : Prop :=
  e = .returned (.tuple #[]) ∧ Bd w' bb tb sb size lead cap P buf ∧ Keeps (fun k => k = bb ∨ k = tb ∨ k = sb) w w'

theorem u8_one (bs : Bs) : ∀ u ∈ u8s bs, u.oneCell' = true := by
  intro u hu
  obtain ⟨n, _, rfl⟩ := List.mem_map.1 hu
  rfl
theorem flat_len {size : Nat} : ∀ {Q : List Bs} (_ : ∀ p ∈ Q, Okp size p), Q.flatten.length = Q.length * size
  | [], _ => by simp
  | p :: r, h => by
    rw [List.flatten_cons, List.length_append, flat_len (fun q hq => h q (by simp [hq])), (h p (by simp)).1, List.length_cons, Nat.add_mul]
    omega

set_option maxHeartbeats 1000000 in
theorem add_zero (bb tb sb size cap : Nat) (P Q : List Bs) (buf : Value) (ao : Option Addr) (n pc : Nat) (w : World) (h : Bd w bb tb sb size 0 cap P buf) (ha : Arg w ao n pc Q.flatten) (hP : ∀ p ∈ P ++ Q, Okp size p) (hfit : (P ++ Q).length * (size - 0) ≤ cap) (hcap : cap ≤ 4194304) :
    Calls Yba.prog 11 #[.pointer (some ⟨bb, 0, none⟩), .slice ao n pc] w (AddPost w bb tb sb size 0 cap (P ++ Q) buf) := by
  obtain ⟨i5, hi5, hz50, hz51, hz52⟩ := info_parts Yba.rowInfo5
  obtain ⟨cs, hcl, hcs, htk⟩ := h.tl
  have hql : Q.flatten.length = Q.length * size := flat_len fun p hp => hP p (List.mem_append_right _ hp)
  have hn : n = Q.length * size := by rw [← ha.ln, hql]
  have hpl : len size 0 P + n ≤ cap := by
    rw [hn]
    unfold len
    rw [List.length_append, Nat.sub_zero, Nat.add_mul] at hfit
    simpa using hfit
  have hown : w.ownsRow 0 5 1 (.slice (some ⟨tb, 0, none⟩) (len size 0 P) cap) (len size 0 P) (u8s (tls 0 P)) := own_of_cl hcl (Nat.zero_le _) hcs htk (by omega) (by simp only [maxLen]; omega)
  have c1 := h.hd.cell 1 (by simp)
  have c3 := h.hd.cell 3 (by simp)
  simp only [List.getElem_cons_succ, List.getElem_cons_zero] at c1 c3
  have HB := hid h
  have HA := hid ha
  have HO := hid hown
  have hnl : (u8s Q.flatten).length = n * 1 := by rw [u8s_len, ha.ln, Nat.mul_one]
  have hrd := ha.cells
  have HRD := hid hrd
  have HPL := hid hpl
  have HN := hid hn
  clear h ha hown hcl hcs htk hrd hpl hn hql
  go_enter Yba.func11, Yba.ntmps11
  go_wp2_with (at_builtin; refine wpList_append_fits_any _ rfl _ _ 22 rfl 0 5 i5 1 Yba.underlying22 hi5 hz51 tb (len size 0 P) cap (u8s (tls 0 P)) rfl HO.out ao n pc (u8s Q.flatten) rfl hnl HA.out.nil HRD.out (u8_one _) HPL.out ?_)
  intro w1 hown1 hgr1
  obtain ⟨cs1, hcl1, hcs1, htk1, _⟩ := cl_of_own hown1
  have hK1 : Keeps (fun k => k = bb ∨ k = tb ∨ k = sb) w w1 := (Keeps.of_grown hgr1).mono fun k _ e => .inr (.inl (Option.some.inj e).symm)
  have hne : bb ≠ tb := by
    obtain ⟨cs, hcl, _⟩ := HB.out.tl
    exact Cl.ne HB.out.hd hcl (by decide)
  have hbb := grown_cl hgr1 HB.out.hd (by simpa using hne)
  have d3 := hbb.cell 3 (by simp)
  have f3 := hbb.frozen 3
  simp only [List.getElem_cons_succ, List.getElem_cons_zero] at d3
  have HBB := hid hbb
  have HCL1 := hid hcl1
  have HK1 := hid hK1
  clear hown1 hgr1 hbb hcl1 hK1
  go_wp2
  go_end0
  have hK2 : Keeps (fun k => k = bb) w1 (w1.setCell ⟨bb, 3, none⟩ (.slice (some ⟨tb, 0, none⟩) (len size 0 P + n) cap)) := Keeps.set _ _ _ rfl
  have hlen : len size 0 (P ++ Q) = len size 0 P + n := by
    rw [HN.out]
    unfold len
    rw [List.length_append, Nat.sub_zero, Nat.add_mul]
  refine ⟨rfl, ⟨?_, ⟨cs1, hK2.cl HCL1.out (fun e => hne e.symm), hcs1, ?_⟩, fun h => absurd rfl h⟩, HK1.out.trans (hK2.mono fun _ _ e => .inl e)⟩
  · have := HBB.out.set 3 (.slice (some ⟨tb, 0, none⟩) (len size 0 P + n) cap)
    rw [hlen]
    simpa [nx, stv] using this
  · rw [hlen, htk1, tls_append, tls_zero Q]
    unfold u8s
    rw [List.map_append]

/-- While add runs: the tails hold bs so far, next is x. -/
structure Ad (w0 : World) (bb tb sb size lead cap tot : Nat) (P : List Bs) (buf : Value) (bs : Bs) (x : Nat) (w : World) : Prop where
  hd : Cl w bb 43 [.int .i64 (size : Int), .int .i64 (lead : Int), .slice (some ⟨sb, 0, none⟩) (nb lead) (nb lead), .slice (some ⟨tb, 0, none⟩) tot cap, .int .i64 (x : Int), buf]
  tl : ∃ cs, Cl w tb 5 cs ∧ cs.length = cap ∧ cs.take bs.length = u8s bs
  st : Cl w sb 23 (u32s (nb lead) (stM lead P x))
  kp : Keeps (fun k => k = bb ∨ k = tb ∨ k = sb) w0 w
theorem Ad.ne {w0 : World} {bb tb sb size lead cap tot : Nat} {P : List Bs} {buf : Value} {bs : Bs} {x : Nat} {w : World} (h : Ad w0 bb tb sb size lead cap tot P buf bs x w) : bb ≠ tb ∧ bb ≠ sb ∧ tb ≠ sb := by
  obtain ⟨cs, hcl, _⟩ := h.tl
  exact ⟨Cl.ne h.hd hcl (by decide), Cl.ne h.hd h.st (by decide), Cl.ne hcl h.st (by decide)⟩
theorem Ad.drew {w0 : World} {bb tb sb size lead cap tot : Nat} {P : List Bs} {buf : Value} {bs : Bs} {x : Nat} {w w' : World} (h : Ad w0 bb tb sb size lead cap tot P buf bs x w) (hd : Drawn w w') : Ad w0 bb tb sb size lead cap tot P buf bs x w' := by
  obtain ⟨cs, hcl, h1, h2⟩ := h.tl
  have hb : ∀ k : Nat, w'.heap[k]? = w.heap[k]? := fun k => by rw [hd.heap]
  exact ⟨h.hd.same (hb _), ⟨cs, hcl.same (hb _), h1, h2⟩, h.st.same (hb _), h.kp.trans (Keeps.of_drawn hd _)⟩
/-- g.starts[b.next] = at; b.next++ -/
theorem Ad.step {w0 : World} {bb tb sb size lead cap tot : Nat} {P : List Bs} {buf : Value} {bs : Bs} {x : Nat} {w : World} (h : Ad w0 bb tb sb size lead cap tot P buf bs x w) (hx : nxt lead P ≤ x) :
    Ad w0 bb tb sb size lead cap tot P buf bs (x + 1) ((w.setCell ⟨sb, x, none⟩ (u32 P.length)).setCell ⟨bb, 4, none⟩ (.int .i64 ((x : Int) + 1))) := by
  obtain ⟨n1, n2, n3⟩ := h.ne
  obtain ⟨cs, hcl, h1, h2⟩ := h.tl
  have k1 : Keeps (fun k => k = sb) w (w.setCell ⟨sb, x, none⟩ (u32 P.length)) := Keeps.set _ _ _ rfl
  have k2 : Keeps (fun k => k = bb) (w.setCell ⟨sb, x, none⟩ (u32 P.length)) ((w.setCell ⟨sb, x, none⟩ (u32 P.length)).setCell ⟨bb, 4, none⟩ (.int .i64 ((x : Int) + 1))) := Keeps.set _ _ _ rfl
  refine ⟨?_, ⟨cs, k2.cl (k1.cl hcl n3) (fun e => n1 e.symm), h1, h2⟩, ?_, h.kp.trans ((k1.mono fun _ _ e => .inr (.inr e)).trans (k2.mono fun _ _ e => .inl e))⟩
  · have := (k1.cl h.hd n2).set 4 (.int .i64 ((x : Int) + 1))
    simpa using this
  · have := k2.cl (h.st.set x (u32 P.length)) (fun e => n2 e.symm)
    rwa [u32s_set (nb lead) (stM lead P x) (stM lead P (x + 1)) x P.length (by rw [stM_step _ _ _ _ hx, if_pos rfl]) (fun j hj => by rw [stM_step _ _ _ _ hx, if_neg hj])] at this
theorem take_set {cs : List Value} {bs : Bs} (h : cs.take bs.length = u8s bs) (hl : bs.length < cs.length) (c : Nat) : (cs.set bs.length (u8 c)).take (bs ++ [c]).length = u8s (bs ++ [c]) := by
  rw [List.length_append, List.length_singleton, List.take_add_one, List.getElem?_set_self hl, List.take_set_of_le (Nat.le_refl _), h]
  simp [u8s]
/-- g.tails[o+k] = c -/
theorem Ad.put {w0 : World} {bb tb sb size lead cap tot : Nat} {P : List Bs} {buf : Value} {bs : Bs} {x : Nat} {w : World} (h : Ad w0 bb tb sb size lead cap tot P buf bs x w) (hl : bs.length < cap) (c : Nat) :
    Ad w0 bb tb sb size lead cap tot P buf (bs ++ [c]) x (w.setCell ⟨tb, bs.length, none⟩ (u8 c)) := by
  obtain ⟨n1, n2, n3⟩ := h.ne
  obtain ⟨cs, hcl, h1, h2⟩ := h.tl
  have k1 : Keeps (fun k => k = tb) w (w.setCell ⟨tb, bs.length, none⟩ (u8 c)) := Keeps.set _ _ _ rfl
  exact ⟨k1.cl h.hd n1, ⟨_, hcl.set _ _, by simpa using h1, take_set h2 (by omega) c⟩, k1.cl h.st (fun e => n3 e.symm), h.kp.trans (k1.mono fun _ _ e => .inr (.inl e))⟩
theorem Ad.cells {w0 : World} {bb tb sb size lead cap tot : Nat} {P : List Bs} {buf : Value} {bs : Bs} {x : Nat} {w : World} (h : Ad w0 bb tb sb size lead cap tot P buf bs x w) :
    w.cell? ⟨bb, 0, none⟩ = some (.int .i64 (size : Int)) ∧ w.cell? ⟨bb, 1, none⟩ = some (.int .i64 (lead : Int)) ∧ w.cell? ⟨bb, 2, none⟩ = some (.slice (some ⟨sb, 0, none⟩) (nb lead) (nb lead)) ∧ w.cell? ⟨bb, 3, none⟩ = some (.slice (some ⟨tb, 0, none⟩) tot cap) ∧ w.cell? ⟨bb, 4, none⟩ = some (.int .i64 (x : Int)) ∧ w.frozen? ⟨bb, 4, none⟩ = false :=
  ⟨by simpa using h.hd.cell 0 (by simp), by simpa using h.hd.cell 1 (by simp), by simpa using h.hd.cell 2 (by simp), by simpa using h.hd.cell 3 (by simp), by simpa using h.hd.cell 4 (by simp), h.hd.frozen 4⟩
/-- b.next, read off the world. -/
def nextOf (w : World) (bb : Nat) : Nat := match w.cell? ⟨bb, 4, none⟩ with | some (.int _ x) => x.toNat | _ => 0
theorem Ad.next {w0 : World} {bb tb sb size lead cap tot : Nat} {P : List Bs} {buf : Value} {bs : Bs} {x : Nat} {w : World} (h : Ad w0 bb tb sb size lead cap tot P buf bs x w) : nextOf w bb = x := by
  unfold nextOf
  rw [h.cells.2.2.2.2.1]
  simp



theorem Bd.ad {w : World} {bb tb sb size lead cap : Nat} {P : List Bs} {buf : Value} (h : Bd w bb tb sb size lead cap P buf) (hl : lead ≠ 0) (hP : ∀ p ∈ P, Okp size p) : Ad w bb tb sb size lead cap (len size lead P) P buf (tls lead P) (nxt lead P) w := by
  have hlen : (tls lead P).length = len size lead P := tls_len hP
  refine ⟨?_, ?_, ?_, Keeps.refl _ _⟩
  · have := h.hd
    simpa [stv, nx, hl] using this
  · rw [hlen]; exact h.tl
  · rw [stM_start]; exact h.st hl
theorem Ad.bd {w0 w : World} {bb tb sb size lead cap : Nat} {P : List Bs} {buf : Value} (h : Ad w0 bb tb sb size lead cap (len size lead P) P buf (tls lead P) (nxt lead P) w) (hl : lead ≠ 0) (hP : ∀ p ∈ P, Okp size p) : Bd w bb tb sb size lead cap P buf := by
  have hlen : (tls lead P).length = len size lead P := tls_len hP
  refine ⟨?_, ?_, fun _ => ?_⟩
  · have := h.hd
    simpa [stv, nx, hl] using this
  · have := h.tl; rwa [hlen] at this
  · have := h.st; rwa [stM_start] at this

theorem Ad.tot {w0 w : World} {bb tb sb size lead cap tot tot' : Nat} {P : List Bs} {buf : Value} {bs : Bs} {x : Nat} (h : Ad w0 bb tb sb size lead cap tot P buf bs x w) : Ad w0 bb tb sb size lead cap tot' P buf bs x (w.setCell ⟨bb, 3, none⟩ (.slice (some ⟨tb, 0, none⟩) tot' cap)) := by
  obtain ⟨n1, n2, n3⟩ := h.ne
  obtain ⟨cs, hcl, h1, h2⟩ := h.tl
  have k1 : Keeps (fun k => k = bb) w (w.setCell ⟨bb, 3, none⟩ (.slice (some ⟨tb, 0, none⟩) tot' cap)) := Keeps.set _ _ _ rfl
  refine ⟨?_, ⟨cs, k1.cl hcl (fun e => n1 e.symm), h1, h2⟩, k1.cl h.st (fun e => n2 e.symm), h.kp.trans (k1.mono fun _ _ e => .inl e)⟩
  have := h.hd.set 3 (.slice (some ⟨tb, 0, none⟩) tot' cap)
  simpa using this
theorem Ad.turn {w0 w : World} {bb tb sb size lead cap tot : Nat} {P : List Bs} {q : Bs} {buf : Value} {bs : Bs} (h : Ad w0 bb tb sb size lead cap tot P buf bs (bkt lead q + 1) w) (hM : Mono lead (P ++ [q])) : Ad w0 bb tb sb size lead cap tot (P ++ [q]) buf bs (nxt lead (P ++ [q])) w := by
  refine ⟨by rw [nxt_snoc]; exact h.hd, h.tl, ?_, h.kp⟩
  rw [stM_start, ← stM_end hM]
  exact h.st
theorem Ad.tcell {w0 w : World} {bb tb sb size lead cap tot : Nat} {P : List Bs} {buf : Value} {bs : Bs} {x : Nat} (h : Ad w0 bb tb sb size lead cap tot P buf bs x w) (hl : bs.length < cap) : (∃ v, w.cell? ⟨tb, bs.length, none⟩ = some v) ∧ w.frozen? ⟨tb, bs.length, none⟩ = false := by
  obtain ⟨cs, hcl, h1, _⟩ := h.tl
  exact ⟨⟨_, hcl.cell _ (by omega)⟩, hcl.frozen _⟩
theorem Ad.scell {w0 w : World} {bb tb sb size lead cap tot : Nat} {P : List Bs} {buf : Value} {bs : Bs} {x : Nat} (h : Ad w0 bb tb sb size lead cap tot P buf bs x w) (j : Nat) (hj : j < nb lead) : (∃ v, w.cell? ⟨sb, j, none⟩ = some v) ∧ w.frozen? ⟨sb, j, none⟩ = false :=
  ⟨⟨_, h.st.cell j (by rw [u32s_len]; exact hj)⟩, h.st.frozen j⟩
theorem Rd.set {w : World} {b off : Nat} {bs : Bs} (h : Rd w b off bs) {p : Addr} (v : Value) (hne : b ≠ p.block) : Rd (w.setCell p v) b off bs := h.same (Below.heap_setCell w p v b hne)
theorem Rd.drawn {w w' : World} {b off : Nat} {bs : Bs} (h : Rd w b off bs) (hd : Drawn w w') : Rd w' b off bs := h.same (by rw [hd.heap])
/-- Where add's loop stands: t prefixes are in. -/
structure At (w0 : World) (bb tb sb size lead cap tot nn : Nat) (P Q : List Bs) (buf : Value) (t : Nat) (ao : Option Addr) (r c o a : Nat) (w : World) : Prop where
  tq : t ≤ Q.length
  ad : Ad w0 bb tb sb size lead cap tot (P ++ Q.take t) buf (tls lead (P ++ Q.take t)) (nxt lead (P ++ Q.take t)) w
  hr : r = (Q.length - t) * size
  ho : o = (P ++ Q.take t).length * nn
  ha : a = (P ++ Q.take t).length
  arg : Arg w ao r c (Q.drop t).flatten
  away : ∀ b off, ao = some ⟨b, off, none⟩ → 0 < r → ¬ (b = bb ∨ b = tb ∨ b = sb)

theorem At.next {w0 : World} {bb tb sb size lead cap tot nn : Nat} {P Q : List Bs} {buf : Value} {t qb qo r c o a r' : Nat} {q : Bs} {w w' : World} (h : At w0 bb tb sb size lead cap tot nn P Q buf t (some ⟨qb, qo, none⟩) r c o a w) (htq : t < Q.length) (hq : Okp size q) (hPq : P ++ Q.take (t + 1) = (P ++ Q.take t) ++ [q]) (hdr : (Q.drop t).flatten = q ++ (Q.drop (t + 1)).flatten) (hr' : (Q.length - (t + 1)) * size = r') (hrr : r = size + r') (hnn : size - lead = nn) (hsz : 0 < size) (haw : ¬ (qb = bb ∨ qb = tb ∨ qb = sb))
    (had : Ad w0 bb tb sb size lead cap tot ((P ++ Q.take t) ++ [q]) buf (tls lead (P ++ Q.take t) ++ (q.drop lead).take nn) (nxt lead ((P ++ Q.take t) ++ [q])) w') (hrd : Rd w' qb qo (Q.drop t).flatten) :
    At w0 bb tb sb size lead cap tot nn P Q buf (t + 1) (if c = size then some ⟨qb, qo, none⟩ else some ⟨qb, qo + size, none⟩) (r - size) (c - size) (o + nn) (a + 1) w' := by
  have h1 : (q.drop lead).take nn = q.drop lead := List.take_of_length_le (by rw [List.length_drop, hq.1]; omega)
  have h2 : tls lead (P ++ Q.take t) ++ q.drop lead = tls lead ((P ++ Q.take t) ++ [q]) := by rw [tls_append lead (P ++ Q.take t) [q], tls_one]
  rw [h1, h2] at had
  have hle := h.arg.le
  have hmx := h.arg.mx
  have hln := h.arg.ln
  rw [hdr, List.length_append, hq.1] at hln
  have e1 : (P ++ Q.take (t + 1)).length = (P ++ Q.take t).length + 1 := by rw [hPq]; simp only [List.length_append, List.length_singleton]
  refine ⟨htq, by rw [hPq]; exact had, by rw [hr']; omega, ?_, ?_, ⟨by omega, by omega, by omega, fun e => ?_, fun h0 => ?_⟩, ?_⟩
  · rw [e1, h.ho, Nat.add_mul, Nat.one_mul]
  · rw [e1, h.ha]
  · split at e <;> cases e
  · have hc : ¬ c = size := by omega
    rw [if_neg hc]
    refine ⟨qb, qo + size, rfl, ?_⟩
    have := hrd.drop size
    rwa [hdr, List.drop_append_of_le_length (by rw [hq.1]; exact Nat.le_refl _), ← hq.1, List.drop_length, List.nil_append, hq.1] at this
  · intro b off e h0
    split at e <;> (cases e; exact haw)
theorem drawn_one (w : World) : Drawn w w.drew := ⟨1, rfl⟩
def sliceLen : Value → Nat
  | .slice _ n _ => n
  | _ => 0
set_option maxHeartbeats 4000000 in
set_option maxRecDepth 100000 in
theorem add_lead (bb tb sb size lead cap : Nat) (P Q : List Bs) (buf : Value) (ao : Option Addr) (n pc : Nat) (w : World) (h : Bd w bb tb sb size lead cap P buf) (ha : Arg w ao n pc Q.flatten)
    (haw : ∀ b off, ao = some ⟨b, off, none⟩ → 0 < Q.flatten.length → ¬ (b = bb ∨ b = tb ∨ b = sb)) (hP : ∀ p ∈ P ++ Q, Okp size p) (hM : Mono lead (P ++ Q)) (hfit : (P ++ Q).length * (size - lead) ≤ cap) (hcap : cap ≤ 4194304) (hl : 1 ≤ lead) (hl2 : lead ≤ 2) (hls : lead < size) (hs : size ≤ 4) :
    Calls Yba.prog 11 #[.pointer (some ⟨bb, 0, none⟩), .slice ao n pc] w (AddPost w bb tb sb size lead cap (P ++ Q) buf) := by
  obtain ⟨nn, hnn⟩ : ∃ nn, size - lead = nn := ⟨_, rfl⟩
  have hnn1 : (size : Int) - (lead : Int) = (nn : Int) := by omega
  have hPP : ∀ p ∈ P, Okp size p := fun p hp => hP p (List.mem_append_left _ hp)
  have hQQ : ∀ p ∈ Q, Okp size p := fun p hp => hP p (List.mem_append_right _ hp)
  have hql : Q.flatten.length = Q.length * size := flat_len hQQ
  have hn : n = Q.length * size := by rw [← ha.ln, hql]
  obtain ⟨lo, hlo⟩ : ∃ lo, P.length * nn = lo := ⟨_, rfl⟩
  obtain ⟨mr, hmr⟩ : ∃ mr, Q.length * nn = mr := ⟨_, rfl⟩
  have hfit2 : lo + mr ≤ cap := by
    rw [List.length_append, hnn, Nat.add_mul, hlo, hmr] at hfit
    exact hfit
  have hlen : len size lead P = lo := by unfold len; rw [hnn, hlo]
  have hnpos : 0 < nn := by omega
  have hPl : P.length ≤ lo := by rw [← hlo]; exact Nat.le_mul_of_pos_right _ hnpos
  have hQl : Q.length ≤ mr := by rw [← hmr]; exact Nat.le_mul_of_pos_right _ hnpos
  have hq1 : Int.tdiv (lo : Int) (nn : Int) = (P.length : Int) := by rw [← hlo, Int.natCast_mul]; exact Int.mul_tdiv_cancel _ (by omega)
  have hq3 : Int.tdiv (n : Int) (size : Int) = (Q.length : Int) := by rw [hn, Int.natCast_mul]; exact Int.mul_tdiv_cancel _ (by omega)
  have hmul : (Q.length : Int) * (nn : Int) = (mr : Int) := by rw [← hmr, Int.natCast_mul]
  have had := Bd.ad h (by omega) hPP
  rw [hlen] at had
  obtain ⟨c0, c1, c2, c3, c4, f4⟩ := had.cells
  have hnle : n ≤ 4 * mr := by rw [hn]; exact Nat.le_trans (Nat.mul_le_mul hQl hs) (by omega)
  have f3 := had.hd.frozen 3
  have HAD := hid had
  have HA := hid ha
  have HLE := hid hlen
  obtain ⟨pl, hpl⟩ : ∃ pl, P.length = pl := ⟨_, rfl⟩
  obtain ⟨ql, hqql⟩ : ∃ ql, Q.length = ql := ⟨_, rfl⟩
  rw [hpl] at hq1 hPl hlo
  rw [hqql] at hq3 hmul hQl hmr
  have HN := hid hn
  have HLO := hid hlo
  have HMR := hid hmr
  clear h ha had hlen hn hlo hmr hql hfit
  go_enter Yba.func11, Yba.ntmps11
  go_wp2_with fail
  go_quiet (fail)
  go_wp2_with fail
  have hdr : Drawn w (w.drewN nq) := ⟨nq, rfl⟩
  generalize w.drewN nq = w1 at *
  have had1 := HAD.out.drew hdr
  have harg1 : Arg w1 ao n pc Q.flatten := HA.out.kept (Keeps.of_drawn hdr fun _ => False) (fun _ _ _ _ h => h)
  obtain ⟨d0, d1, d2, d3, d4, g4⟩ := had1.cells
  have g3 := had1.hd.frozen 3
  have hadT := Ad.tot (tot' := lo + mr) had1
  have hargT : Arg (w1.setCell ⟨bb, 3, none⟩ (.slice (some ⟨tb, 0, none⟩) (lo + mr) cap)) ao n pc Q.flatten := harg1.kept (Keeps.set _ _ _ (M := fun k => k = bb ∨ k = tb ∨ k = sb) (.inl rfl)) haw
  have HADT := hid hadT
  have HARGT := hid hargT
  clear had1 harg1 hadT hargT hdr c0 c1 c2 c3 c4 f4 f3 HA HAD
  refine (grow_none ⟨tb, 0, none⟩ lo cap mr w1 hfit2 (by omega)).mono ?_
  rintro e w2 ⟨rfl, rfl⟩
  go_wp2_with fail
  generalize w2.setCell ⟨bb, 3, none⟩ (.slice (some ⟨tb, 0, none⟩) (lo + mr) cap) = W at *
  have hat0 : At w bb tb sb size lead cap (lo + mr) nn P Q buf 0 ao n pc lo pl W := by
    refine ⟨Nat.zero_le _, ?_, ?_, ?_, ?_, ?_, ?_⟩
    · rw [List.take_zero, List.append_nil]; exact HADT.out
    · rw [HN.out]; simp
    · rw [List.take_zero, List.append_nil, hpl]; exact HLO.out.symm
    · rw [List.take_zero, List.append_nil, hpl]
    · exact HARGT.out
    · intro b off e h0; exact haw b off e (by rw [HARGT.out.ln]; exact h0)
  have HAT0 := hid hat0
  have HAW := hid haw
  have HMM := hid hM
  have HPP := hid hP
  have HQL := hid hqql
  have HPL := hid hpl
  have HNN := hid hnn
  have HF2 := hid hfit2
  clear hat0 haw hM hP hqql hpl HADT HARGT d0 d1 d2 d3 d4 g3 g4 hPP hQQ hnn hnn1 hq1 hq3 hmul hPl hQl hnle hfit2
  go_loopw [1, 6, 7] (fun pv ov av wr => ∃ (t r c o a : Nat) (ao' : Option Addr), pv = .slice ao' r c ∧ ov = .int .i64 (o : Int) ∧ av = .int .u32 (a : Int) ∧ At w bb tb sb size lead cap (lo + mr) nn P Q buf t ao' r c o a wr) (fun pv _ _ _ => sliceLen pv)
  case atStart => exact ⟨0, n, pc, lo, pl, ao, rfl, rfl, rfl, HAT0.out⟩
  case round =>
    obtain ⟨t, r, c, o, a, ao', rfl, rfl, rfl, hat⟩ := hrel
    by_cases htq : t < Q.length
    · obtain ⟨q, hq⟩ : ∃ q, Q[t] = q := ⟨_, rfl⟩
      have hqo : Okp size q := by rw [← hq]; exact HPP.out _ (List.mem_append_right _ (List.getElem_mem htq))
      have hdrop : (Q.drop t).flatten = q ++ (Q.drop (t + 1)).flatten := by rw [List.drop_eq_getElem_cons htq, List.flatten_cons, hq]
      obtain ⟨r', hr'⟩ : ∃ r', (Q.length - (t + 1)) * size = r' := ⟨_, rfl⟩
      have hrr : r = size + r' := by
        rw [hat.hr, ← hr', show Q.length - t = (Q.length - (t + 1)) + 1 by omega, Nat.add_mul]
        omega
      have harg := hat.arg
      rw [hdrop] at harg
      obtain ⟨qb, qo, rfl, hrd⟩ := harg.rd (by rw [List.length_append, hqo.1]; omega)
      have hle := harg.le
      have hmx := harg.mx
      have hrq : Rd wr qb qo q := by
        have := hrd.take q.length
        rwa [List.take_left] at this
      have hqaw := hat.away qb qo rfl (by omega)
      have hPq : P ++ Q.take (t + 1) = (P ++ Q.take t) ++ [q] := by rw [List.take_add_one, List.getElem?_eq_getElem htq, hq, List.append_assoc]; rfl
      have hMq : Mono lead ((P ++ Q.take t) ++ [q]) := by
        rw [← hPq]
        have := HMM.out
        unfold Mono at this ⊢
        refine List.Pairwise.sublist ?_ this
        exact List.Sublist.append_left (List.take_sublist _ _) _
      obtain ⟨c0, c1, c2, c3, c4, f4⟩ := hat.ad.cells
      have hbk : bkt lead q < 256 ^ lead := bkt_lt hqo (by omega)
      have hnb : nb lead ≤ 65537 := by
        have : lead = 1 ∨ lead = 2 := by omega
        rcases this with rfl | rfl <;> decide
      have hnb2 : bkt lead q < nb lead := by unfold nb; omega
      have hcall := bucketOf_any bb qb qo r c lead q wr c1 hrq hqo.2 (by rw [hqo.1]; omega) hl2 (by omega) hle (by omega)
      have HAT := hid hat
      have HRQ := hid hrq
      have HMQ := hid hMq
      have HPQ := hid hPq
      have HDR := hid hdrop
      have HRD := hid hrd
      have HR' := hid hr'
      obtain ⟨bk, hbk'⟩ : ∃ bk, bkt lead q = bk := ⟨_, rfl⟩
      rw [hbk'] at hcall hnb2
      have HBK := hid hbk'
      have HCA := hid hcall
      have HRR := hid hrr
      have hr1 : size ≤ r := by omega
      have hr2 : (0 : Int) < (r : Int) := by omega
      have HAWQ := hid hqaw
      have HQO := hid hqo
      clear hat harg hcall hrq hMq hPq hdrop hrd hq hbk' hr' hbk hqaw hqo hrr
      go_wp2_with fail
      refine HCA.out.mono ?_
      rintro e w3 ⟨rfl, rfl⟩
      go_wp2_with fail
      have hst2 : nxt lead (P ++ Q.take t) ≤ bk + 1 := by rw [← HBK.out]; exact nxt_le HMQ.out
      have HST2 := hid hst2
      clear hst2
      go_loopw [] (fun wr' => ∃ x, Ad w bb tb sb size lead cap (lo + mr) (P ++ Q.take t) buf (tls lead (P ++ Q.take t)) x wr' ∧ nxt lead (P ++ Q.take t) ≤ x ∧ x ≤ bk + 1 ∧ Rd wr' qb qo (Q.drop t).flatten) (fun wr' => bk + 1 - nextOf wr' bb)
      case atStart => exact ⟨_, HAT.out.ad, Nat.le_refl _, HST2.out, HDR.out ▸ HRD.out⟩
      case round =>
        obtain ⟨x, had, hx1, hx2, hrd⟩ := hrel
        by_cases hxb : x ≤ bk
        · obtain ⟨e0, e1, e2, e3, e4, g4⟩ := had.cells
          obtain ⟨⟨sv, hsv⟩, fsv⟩ := Ad.scell had x (by omega)
          have hxn : (x : Int) < ((nb lead : Nat) : Int) := by omega
          have hnext := had.next
          have hstep := had.step hx1
          have hlen : (P ++ Q.take t).length = a := HAT.out.ha.symm
          rw [hlen] at hstep
          have hsbb : sb ≠ bb := fun e => had.ne.2.1 e.symm
          have HSTEP := hid hstep
          have HRD2 := hid hrd
          have HX1 := hid hx1
          have HNEXT := hid hnext
          clear had hstep hrd hx1 hlen hnext c0 c1 c2 c3 c4 f4
          have hqs : qb ≠ sb := fun e => HAWQ.out (.inr (.inr e))
          have hqb : qb ≠ bb := fun e => HAWQ.out (.inl e)
          go_wp2
          go_region
          all_goals
            go_wp2
            exact ⟨⟨x + 1, HSTEP.out.drew (drawn_one _), by have := HX1.out; omega, by omega, Rd.drawn (Rd.set (Rd.set HRD2.out _ hqs) _ hqb) (drawn_one _)⟩, by have hnx := (HSTEP.out.drew (drawn_one _)).next; unfold u32 at hnx; rw [hnx, HNEXT.out]; omega⟩
        · obtain rfl : x = bk + 1 := by omega
          have hturn : Ad w bb tb sb size lead cap (lo + mr) ((P ++ Q.take t) ++ [q]) buf (tls lead (P ++ Q.take t)) (nxt lead ((P ++ Q.take t) ++ [q])) wr := Ad.turn (by rw [HBK.out]; exact had) HMQ.out
          obtain ⟨e0, e1, e2, e3, e4, g4⟩ := had.cells
          have HTU := hid hturn
          have HRD2 := hid hrd
          have hcl : ¬ c = lead := by omega
          have hcl2 : (lead : Int) ≤ (size : Int) := by omega
          have hcl3 : (size : Int) ≤ (c : Int) := by omega
          clear had hturn hrd hx1 hx2 c0 c1 c2 c3 c4 f4
          go_wp2
          go_quiet (fail)
          go_wp2_with fail
          have hdr3 : Drawn wr (wr.drewN nq) := ⟨nq, rfl⟩
          generalize wr.drewN nq = W3 at *
          have hA0 := HTU.out.drew hdr3
          have hR0 := Rd.drawn HRD2.out hdr3
          have HA0 := hid hA0
          have HR0 := hid hR0
          have hnat : ((size - lead : Nat) : Int) = (nn : Int) := by rw [HNN.out]
          clear hA0 hR0 hdr3 HTU HRD2 e0 e1 e2 e3 e4 g4
          go_loopw [10, 11, 115] (fun _ _ iv wr' => ∃ k : Nat, k ≤ nn ∧ iv = .int .i64 (k : Int) ∧ Ad w bb tb sb size lead cap (lo + mr) ((P ++ Q.take t) ++ [q]) buf (tls lead (P ++ Q.take t) ++ (q.drop lead).take k) (nxt lead ((P ++ Q.take t) ++ [q])) wr' ∧ Rd wr' qb qo (Q.drop t).flatten) (fun _ _ iv _ => nn - (intOf iv).toNat)
          case atStart => exact ⟨0, Nat.zero_le _, rfl, by rw [List.take_zero, List.append_nil]; exact HA0.out, HR0.out⟩
          case round =>
            obtain ⟨k, hk, rfl, had, hrd⟩ := hrel
            have hPt : (tls lead (P ++ Q.take t)).length = o := by
              rw [tls_len (size := size) (fun p hp => HPP.out p (by rcases List.mem_append.1 hp with h | h; exact List.mem_append_left _ h; exact List.mem_append_right _ (List.mem_of_mem_take h))), HNN.out, HAT.out.ho]
            have hql : q.length = size := HQO.out.1
            by_cases hkn : k < nn
            · have hqk : lead + k < q.length := by have := HNN.out; omega
              have hbl : (tls lead (P ++ Q.take t) ++ (q.drop lead).take k).length = o + k := by
                rw [List.length_append, hPt, List.length_take, List.length_drop, hql, HNN.out, Nat.min_eq_left hk]
              have hocap : o + nn ≤ lo + mr := by
                have h1 := HAT.out.ho
                rw [List.length_append, List.length_take, Nat.min_eq_left (Nat.le_of_lt htq), Nat.add_mul, HPL.out, HLO.out] at h1
                have h2 : (t + 1) * nn ≤ ql * nn := Nat.mul_le_mul_right _ (by rw [← HQL.out]; omega)
                rw [HMR.out, Nat.add_mul] at h2
                omega
              have hfc := HF2.out
              obtain ⟨⟨tv, htv⟩, ftv⟩ := Ad.tcell had (by rw [hbl]; omega)
              rw [hbl] at htv ftv
              obtain ⟨e0, e1, e2, e3, e4, g4⟩ := had.cells
              have hch := hrd (lead + k) (by rw [HDR.out, List.length_append]; omega)
              have hch2 : (Q.drop t).flatten[lead + k]'(by rw [HDR.out, List.length_append]; omega) = q[lead + k] := by
                simp only [HDR.out]
                rw [List.getElem_append_left hqk]
              rw [hch2] at hch
              obtain ⟨ch, hchv⟩ : ∃ ch, q[lead + k] = ch := ⟨_, rfl⟩
              rw [hchv] at hch
              have hch3 : wr.cell? ⟨qb, qo + lead + k, none⟩ = some (.int .u8 (ch : Int)) := by rw [Nat.add_assoc]; exact hch
              have hput := Ad.put had (by rw [hbl]; omega) ch
              rw [hbl] at hput
              have hext : tls lead (P ++ Q.take t) ++ (q.drop lead).take k ++ [ch] = tls lead (P ++ Q.take t) ++ (q.drop lead).take (k + 1) := by
                rw [List.append_assoc, List.take_add_one, List.getElem?_drop, List.getElem?_eq_getElem hqk, hchv]
                rfl
              rw [hext] at hput
              have hqt : qb ≠ tb := fun e => HAWQ.out (.inr (.inl e))
              have hrd' := Rd.set hrd (p := ⟨tb, o + k, none⟩) (u8 ch) hqt
              have HPUT := hid hput
              have HRD' := hid hrd'
              have hok : (o : Int) + (k : Int) < ((lo + mr : Nat) : Int) := by omega
              have hkn' : (k : Int) < (nn : Int) := by omega
              have hkn2 : k < size - lead := by have := HNN.out; omega
              have hkn3 : (k : Int) < ((size - lead : Nat) : Int) := by omega
              clear had hrd hput hrd' hext hbl hch hch2 hPt hocap hchv hqk hql hnat
              go_wp2
              exact ⟨⟨k + 1, by omega, by go_num, HPUT.out, HRD'.out⟩, by simp [intOf]; omega⟩
            · obtain rfl : k = nn := by omega
              have hnext := At.next HAT.out htq HQO.out HPQ.out HDR.out HR'.out HRR.out HNN.out (by omega) HAWQ.out had hrd
              obtain ⟨e0, e1, e2, e3, e4, g4⟩ := had.cells
              have hkn2 : ¬ k < size - lead := by have := HNN.out; omega
              have hkn3 : ¬ (k : Int) < ((size - lead : Nat) : Int) := by omega
              have hoc : o + k ≤ cap := by
                have h1 := HAT.out.ho
                rw [List.length_append, List.length_take, Nat.min_eq_left (Nat.le_of_lt htq), Nat.add_mul, HPL.out, HLO.out] at h1
                have h2 : (t + 1) * k ≤ ql * k := Nat.mul_le_mul_right _ (by rw [← HQL.out]; omega)
                rw [HMR.out, Nat.add_mul] at h2
                have := HF2.out
                omega
              have hac : a ≤ o := by
                rw [HAT.out.ha, HAT.out.ho]
                exact Nat.le_mul_of_pos_right _ hnpos
              have hcs : (size : Int) ≤ (r : Int) := by omega
              have HNX := hid hnext
              clear had hrd hnext hPt hql hnat
              go_wp2
              exact ⟨⟨t + 1, r - size, c - size, o + k, a + 1, _, rfl, by go_num, by go_num, HNX.out⟩, by simp [sliceLen]; omega⟩
    · have htq' : t = Q.length := by have := hat.tq; omega
      have hr0 : r = 0 := by rw [hat.hr, htq']; simp
      have hPQ : P ++ Q.take t = P ++ Q := by rw [htq', List.take_length]
      have had := hat.ad
      rw [hPQ] at had
      have htot : len size lead (P ++ Q) = lo + mr := by
        unfold len
        rw [List.length_append, HNN.out, Nat.add_mul, HPL.out, HQL.out, HLO.out, HMR.out]
      rw [← htot] at had
      have hkp := had.kp
      have hbd := Ad.bd had (by omega) HPP.out
      have HFIN : Hid (AddPost w bb tb sb size lead cap (P ++ Q) buf (.returned (.tuple #[])) wr) := hid ⟨rfl, hbd, hkp⟩
      subst hr0
      clear hat had hPQ htot hkp hbd htq' htq
      go_wp2
      go_end0
      exact HFIN.out

theorem add_q (bb tb sb size lead cap : Nat) (P Q : List Bs) (buf : Value) (ao : Option Addr) (n pc : Nat) (w : World) (h : Bd w bb tb sb size lead cap P buf) (ha : Arg w ao n pc Q.flatten)
    (haw : ∀ b off, ao = some ⟨b, off, none⟩ → 0 < Q.flatten.length → ¬ (b = bb ∨ b = tb ∨ b = sb)) (hP : ∀ p ∈ P ++ Q, Okp size p) (hM : Mono lead (P ++ Q)) (hfit : (P ++ Q).length * (size - lead) ≤ cap) (hcap : cap ≤ 4194304) (hl2 : lead ≤ 2) (hls : lead < size) (hs : size ≤ 4) :
    Calls Yba.prog 11 #[.pointer (some ⟨bb, 0, none⟩), .slice ao n pc] w (AddPost w bb tb sb size lead cap (P ++ Q) buf) := by
  by_cases h0 : lead = 0
  · subst h0
    exact add_zero bb tb sb size cap P Q buf ao n pc w h ha hP hfit hcap
  · exact add_lead bb tb sb size lead cap P Q buf ao n pc w h ha haw hP hM hfit hcap (by omega) hl2 hls hs
end Go.Proofs.Ybulkehgw.Aq
