/-
  LawS6678BWhole (f3): the walk.
-/
import Derived.Test.YbulkehgwAll
import Derived.Test.YbulkehgwGrq
import Derived.Test.YbulkehgwAdq
import Derived.Deep.CutRange
namespace Go.Proofs.Ybulkehgw.Law
open Go.RowKit Pl Mem Bld AddZ AddL Grp Chk Cpy Lb Srt All

/-- The i-th prefix of the data. -/
def chunk (size : Nat) (bs : Bs) (i : Nat) : Bs := (bs.drop (i * size)).take size
theorem chunk_ok {size : Nat} {bs : Bs} (h8 : ∀ c ∈ bs, c < 256) {i : Nat} (hi : (i + 1) * size ≤ bs.length) : Okp size (chunk size bs i) := by
  refine ⟨?_, fun c hc => h8 c (List.mem_of_mem_drop (List.mem_of_mem_take hc))⟩
  unfold chunk
  rw [List.length_take, List.length_drop]
  rw [Nat.add_mul] at hi
  omega
/-- The rows while they are cloned: g, c of each that is there. -/
structure Cln (w wr : World) (pb size m : Nat) (bs : Bs) (gs : List (Nat × Nat)) : Prop where
  row : Cl wr pb 22 (gs.map (fun p => Value.slice (some ⟨p.1, 0, none⟩) size p.2) ++ List.replicate (m - gs.length) (.slice none 0 0))
  rd : ∀ j (h : j < gs.length), Rd wr gs[j].1 0 (chunk size bs j) ∧ gs[j].1 ≠ pb ∧ size ≤ gs[j].2 ∧ gs[j].2 ≤ 9223372036854775807 ∧ gs[j].1 < wr.heap.size
  below : Below w.heap.size w wr
  ge : w.heap.size ≤ pb

theorem Cln.step {w wr w2 : World} {pb size m : Nat} {bs : Bs} {gs : List (Nat × Nat)} {g c : Nat} (h : Cln w wr pb size m bs gs) (hi : gs.length < m) (hb : Below wr.heap.size wr w2) (ht : Tl w2 g c (chunk size bs gs.length)) (hg : wr.heap.size ≤ g) (hc : size ≤ c) (hm : c ≤ 9223372036854775807) :
    w2.cell? ⟨pb, gs.length, none⟩ = some (.slice none 0 0) ∧ w2.frozen? ⟨pb, gs.length, none⟩ = false ∧ Cln w (w2.setCell ⟨pb, gs.length, none⟩ (.slice (some ⟨g, 0, none⟩) size c)) pb size m bs (gs ++ [(g, c)]) := by
  have hr2 := h.row.below hb h.row.lt
  have hlt := h.row.lt
  have hk : Keeps (fun k => k = pb) w2 (w2.setCell ⟨pb, gs.length, none⟩ (.slice (some ⟨g, 0, none⟩) size c)) := Keeps.set _ _ _ rfl
  have e0 : m - gs.length = (m - (gs.length + 1)) + 1 := by omega
  refine ⟨?_, hr2.frozen _, ?_, fun j hj => ?_, (h.below.trans (hb.mono h.below.size)).trans (hk.below (Nat.le_trans h.below.size hb.size) fun k e => by rw [e]; exact h.ge), h.ge⟩
  · rw [hr2.cell?, List.getElem?_append_right (by simp), List.length_map, Nat.sub_self, e0]
    rfl
  · have := hr2.set gs.length (.slice (some ⟨g, 0, none⟩) size c)
    rw [List.set_append_right _ _ (by simp), List.length_map, Nat.sub_self, e0, List.replicate_succ, List.set_cons_zero] at this
    rw [List.map_append, List.length_append, List.length_singleton, List.append_assoc]
    exact this
  · by_cases hj2 : j < gs.length
    · rw [List.getElem_append_left hj2]
      obtain ⟨r1, r2, r3, r4, r5⟩ := h.rd j hj2
      exact ⟨(r1.below hb r5).same (hk.block _ (Nat.lt_of_lt_of_le r5 hb.size) r2), r2, r3, r4, Nat.lt_of_lt_of_le r5 (Nat.le_trans hb.size hk.size)⟩
    · have ej : j = gs.length := by simp at hj; omega
      subst ej
      have hne : g ≠ pb := by omega
      simp only [List.getElem_append_right (Nat.le_refl _), Nat.sub_self, List.getElem_cons_zero]
      exact ⟨ht.rd.same (hk.block _ ht.lt hne), hne, hc, hm, Nat.lt_of_lt_of_le ht.lt hk.size⟩

/-- A prefix in its block. -/
abbrev Pf := Nat × Nat × Bs
def pv (size : Nat) (x : Pf) : Value := .slice (some ⟨x.1, 0, none⟩) size x.2.1
/-- The sorted prefixes. -/
structure So (w wr : World) (pb size m : Nat) (E : List Pf) : Prop where
  row : Cl wr pb 22 (E.map (pv size))
  rd : ∀ x ∈ E, Rd wr x.1 0 x.2.2 ∧ x.1 ≠ pb ∧ size ≤ x.2.1 ∧ x.2.1 ≤ 9223372036854775807 ∧ x.1 < wr.heap.size ∧ Okp size x.2.2
  srt : (E.map (·.2.2)).Pairwise (· ≤ ·)
  ln : E.length = m
  below : Below w.heap.size w wr
  ge : w.heap.size ≤ pb
theorem So.beyond {w wr w' : World} {pb size m : Nat} {E : List Pf} (h : So w wr pb size m E) (hb : Below wr.heap.size wr w') : So w w' pb size m E :=
  ⟨h.row.below hb h.row.lt, fun x hx => by
    obtain ⟨r1, r2, r3, r4, r5, r6⟩ := h.rd x hx
    exact ⟨r1.below hb r5, r2, r3, r4, Nat.lt_of_lt_of_le r5 hb.size, r6⟩, h.srt, h.ln, h.below.trans (hb.mono h.below.size), h.ge⟩
theorem sort_so {w wr : World} {pb size m : Nat} {bs : Bs} {gs : List (Nat × Nat)} (h : Cln w wr pb size m bs gs) (hm : gs.length = m) (hm2 : m ≤ 1048576) (h8 : ∀ c ∈ bs, c < 256) (hlen : m * size ≤ bs.length) :
    Calls Yba.prog 6 #[.slice (some ⟨pb, 0, none⟩) m m, .func (.func 7) #[] #[]] wr fun e w' => e = .returned (.tuple #[]) ∧ ∃ E, So w w' pb size m E := by
  have hok : ∀ j, j < gs.length → Okp size (chunk size bs j) := fun j hj => chunk_ok h8 (Nat.le_trans (Nat.mul_le_mul_right _ (by omega)) hlen)
  obtain ⟨d, hdl, hd⟩ : ∃ d : List (El wr pb), d.length = gs.length ∧ ∀ j (h1 : j < d.length) (h2 : j < gs.length), d[j].g = gs[j].1 ∧ d[j].c = gs[j].2 ∧ d[j].bs = chunk size bs j := by
    refine ⟨List.ofFn fun j : Fin gs.length => ⟨gs[j].1, gs[j].2, chunk size bs j, (h.rd j j.2).1, (h.rd j j.2).2.1⟩, by simp, fun j h1 h2 => ?_⟩
    simp
  have hcells : d.map enc = gs.map (fun p => Value.slice (some ⟨p.1, 0, none⟩) size p.2) := by
    apply List.ext_getElem
    · simp [hdl]
    · intro j h1 h2
      have hj : j < d.length := by simpa using h1
      obtain ⟨e1, e2, e3⟩ := hd j hj (by omega)
      simp only [List.getElem_map, enc]
      rw [e1, e2, e3, (hok j (by omega)).1]
  have hrow := h.row
  rw [hm, Nat.sub_self, List.replicate_zero, List.append_nil, ← hcells] at hrow
  have hs := sort_any wr pb d hrow (by omega)
  rw [hdl, hm] at hs
  refine hs.mono ?_
  rintro e w' ⟨rfl, d', hperm, hsrt, hcl, hk⟩
  have hmem : ∀ x ∈ d', Okp size x.bs ∧ size ≤ x.c ∧ x.c ≤ 9223372036854775807 ∧ x.g < wr.heap.size := fun x hx => by
    have hx2 := hperm.mem_iff.1 hx
    obtain ⟨j, hj, rfl⟩ := List.getElem_of_mem hx2
    obtain ⟨e1, e2, e3⟩ := hd j hj (by omega)
    obtain ⟨_, _, r3, r4, r5⟩ := h.rd j (by omega)
    rw [e1, e2, e3]
    exact ⟨hok j (by omega), r3, r4, r5⟩
  refine ⟨rfl, d'.map (fun x => (x.g, x.c, x.bs)), ⟨?_, fun x hx => ?_, ?_, ?_, h.below.trans (hk.below h.below.size fun k e => by rw [e]; exact h.ge), h.ge⟩⟩
  · have : d'.map enc = (d'.map (fun x => (x.g, x.c, x.bs))).map (pv size) := by
      rw [List.map_map]
      refine List.map_congr_left fun x hx => ?_
      simp only [Function.comp, pv, enc, (hmem x hx).1.1]
    rw [← this]
    exact hcl
  · obtain ⟨y, hy, rfl⟩ := List.mem_map.1 hx
    obtain ⟨q1, q2, q3, q4⟩ := hmem y hy
    exact ⟨y.rd.same (hk.block _ q4 y.ne), y.ne, q2, q3, Nat.lt_of_lt_of_le q4 hk.size, q1⟩
  · rw [List.map_map]
    have : (List.map ((fun x : Pf => x.2.2) ∘ fun x : El wr pb => (x.g, x.c, x.bs)) d') = d'.map (·.bs) := rfl
    rw [this]
    refine hsrt.imp_of_mem fun hp hq hpq => ?_
    obtain ⟨x, hx, rfl⟩ := List.mem_map.1 hp
    obtain ⟨y, hy, rfl⟩ := List.mem_map.1 hq
    exact le_of_by8 (hmem x hx).1.2 (hmem y hy).1.2 hpq
  · rw [List.length_map, hperm.length_eq, hdl, hm]

theorem group_q (ao : Option Addr) (c size lead : Nat) (P : List Bs) (w : World) (h : Grq.Ps w ao size P) (hm : P.length ≤ 1048576) (hl2 : lead ≤ 2) (h1 : lead < size) (hs : size ≤ 4) :
    Calls Yba.prog 8 #[.slice ao P.length c, .int .i64 (size : Int), .int .i64 (lead : Int)] w (GrpPost w size lead P) := by
  have : lead = 0 ∨ lead = 1 ∨ lead = 2 := by omega
  rcases this with rfl | rfl | rfl
  · exact Grq.group_zero ao c size P w h hm (by omega) hs
  · exact Grq.group_one ao c size P w h hm (by omega) hs
  · exact Grq.group_two ao c size P w h hm (by omega) hs
theorem stv_form (lead sb : Nat) : ∃ so sn, stv lead sb = .slice so sn sn := by
  unfold stv
  split
  · exact ⟨_, _, rfl⟩
  · exact ⟨_, _, rfl⟩
/-- The copy of the starts. -/
def StC (w : World) (sl sn : Nat) (Ps : List Bs) (co : Option Addr) (cc : Nat) : Prop := (sl = 0 → co = none ∧ cc = 0) ∧ (sl ≠ 0 → ∃ g, co = some ⟨g, 0, none⟩ ∧ g < w.heap.size ∧ ∀ j, j < sn → w.cell? ⟨g, j, none⟩ = some (.int .u32 (cnt sl Ps j : Int)))
theorem StC.below {w w' : World} {sl sn : Nat} {Ps : List Bs} {co : Option Addr} {cc : Nat} (h : StC w sl sn Ps co cc) (hb : Below w.heap.size w w') : StC w' sl sn Ps co cc :=
  ⟨h.1, fun hl => by
    obtain ⟨g, h1, h2, h3⟩ := h.2 hl
    exact ⟨g, h1, Nat.lt_of_lt_of_le h2 hb.size, fun j hj => (hb.cell h2).trans (h3 j hj)⟩⟩
theorem clone_st {w : World} {gs sl sn : Nat} {Ps : List Bs} {so : Option Addr} (hsv : stv sl gs = .slice so sn sn) (hst : sl ≠ 0 → Cl w gs 23 (u32s (nb sl) (cnt sl Ps))) (hl2 : sl ≤ 2) :
    Calls Yba.prog 9 #[.slice so sn sn] w fun e w' => ∃ co cc, e = .returned (.slice co sn cc) ∧ StC w' sl sn Ps co cc ∧ Below w.heap.size w w' := by
  by_cases h0 : sl = 0
  · unfold stv at hsv
    rw [if_pos h0] at hsv
    injection hsv with e1 e2 e3
    subst e1 e2
    refine (clone32_nil w).mono ?_
    rintro e w' ⟨rfl, rfl⟩
    exact ⟨none, 0, rfl, ⟨fun _ => ⟨rfl, rfl⟩, fun h => absurd h0 h⟩, Below.refl _ _⟩
  · unfold stv at hsv
    rw [if_neg h0] at hsv
    injection hsv with e1 e2 e3
    subst e1 e2
    have hnb : nb sl ≤ 65537 := by
      have : sl = 0 ∨ sl = 1 ∨ sl = 2 := by omega
      rcases this with rfl | rfl | rfl <;> decide
    refine (clone32 gs (nb sl) (nb sl) (cnt sl Ps) w (hst h0) hnb).mono ?_
    rintro e w' ⟨g, cap, rfl, ⟨cs, hcl, htk⟩, hg, hb⟩
    refine ⟨some ⟨g, 0, none⟩, cap, rfl, ⟨fun h => absurd h h0, fun _ => ⟨g, rfl, hcl.lt, fun j hj => ?_⟩⟩, hb⟩
    rw [hcl.cell?]
    have := congrArg (fun l : List Value => l[j]?) htk
    simp only [List.getElem?_take, if_pos hj] at this
    rw [this, List.getElem?_eq_getElem (by rw [u32s_len]; exact hj), u32s_at]
    rfl
theorem Bd.place {w : World} {B bb tb sb size lead cap : Nat} {P : List Bs} {buf : Value} (h : Bd w bb tb sb size lead cap P buf) (h1 : B ≤ tb) (h2 : B ≤ sb) : ∃ sb', Bd w bb tb sb' size lead cap P buf ∧ sb' < w.heap.size ∧ B ≤ sb' := by
  by_cases h0 : lead = 0
  · refine ⟨tb, ⟨?_, h.tl, fun hl => absurd h0 hl⟩, ?_, h1⟩
    · have := h.hd
      simpa [stv, h0] using this
    · obtain ⟨cs, hc, _⟩ := h.tl; exact hc.lt
  · exact ⟨sb, h, (h.st h0).lt, h2⟩
theorem own_arg {w : World} {B n : Nat} {v : Value} {bs : Bs} (h : w.ownsRow B 5 1 v n (u8s bs)) : ∃ ao c, v = .slice ao n c ∧ bs.length = n ∧ (∀ b off, ao = some ⟨b, off, none⟩ → B ≤ b) ∧ (ao = none → n = 0 ∧ c = 0) ∧ n ≤ c ∧ c ≤ 9223372036854775807 ∧ (0 < bs.length → ∃ b off, ao = some ⟨b, off, none⟩ ∧ Rd w b off bs) := by
  have hl : bs.length = n := by have := h.1; rwa [u8s_len, Nat.mul_one] at this
  rcases h.2 with ⟨rfl, hn⟩ | ⟨g, cap, cur, rfl, hb, hg, h1, h2, h3, h4⟩
  · subst hn
    exact ⟨none, 0, rfl, hl, fun _ _ e => (by cases e), fun _ => ⟨rfl, rfl⟩, Nat.le_refl _, by omega, fun h0 => by omega⟩
  · refine ⟨some ⟨g, 0, none⟩, cap, rfl, hl, fun b off e => (by injection e with e; injection e with e _; omega), fun e => (by cases e), h1, by simpa [maxLen] using h2, fun _ => ⟨g, 0, rfl, ?_⟩⟩
    have hcl : Cl w g 5 cur.toList := by unfold Cl; simpa using hg
    exact hcl.rd (by rw [hl]; simpa using h4)
theorem So.okp {w wr : World} {pb size m : Nat} {E : List Pf} (h : So w wr pb size m E) : ∀ p ∈ E.map (·.2.2), Okp size p := fun p hp => by
  obtain ⟨x, hx, rfl⟩ := List.mem_map.1 hp
  exact (h.rd x hx).2.2.2.2.2
theorem So.ps {w wr : World} {pb size m : Nat} {E : List Pf} (h : So w wr pb size m E) : Grq.Ps wr (some ⟨pb, 0, none⟩) size (E.map (·.2.2)) := by
  refine ⟨h.okp, fun i hi => ?_⟩
  have hi' : i < E.length := by simpa using hi
  obtain ⟨r1, r2, r3, r4, r5, r6⟩ := h.rd E[i] (List.getElem_mem hi')
  refine ⟨pb, 0, E[i].1, E[i].2.1, rfl, ?_, by simpa using r1, r3, r4, h.row.lt, r5⟩
  rw [Nat.zero_add, h.row.cell i (by simpa using hi')]
  simp [pv]
theorem So.mono {w wr : World} {pb size m : Nat} {E : List Pf} (h : So w wr pb size m E) (lead : Nat) : Mono lead (E.map (·.2.2)) := mono_of_sorted lead h.okp h.srt

theorem own_ps {w0 w : World} {pb size m B g n cap : Nat} {E F : List Pf} (hS : So w0 w pb size m E) (h : w.ownsRow B 22 1 (.slice (some ⟨g, 0, none⟩) n cap) n (F.map (pv size))) (hF : ∀ x ∈ F, x ∈ E) : Grq.Ps w (some ⟨g, 0, none⟩) size (F.map (·.2.2)) := by
  obtain ⟨cs, hcl, hl, htk, hle, _⟩ := cl_of_own h
  refine ⟨fun p hp => ?_, fun i hi => ?_⟩
  · obtain ⟨x, hx, rfl⟩ := List.mem_map.1 hp
    exact (hS.rd x (hF x hx)).2.2.2.2.2
  · have hi' : i < F.length := by simpa using hi
    obtain ⟨r1, r2, r3, r4, r5, r6⟩ := hS.rd F[i] (hF _ (List.getElem_mem hi'))
    refine ⟨g, 0, F[i].1, F[i].2.1, rfl, ?_, by simpa using r1, r3, r4, hcl.lt, r5⟩
    have hn : F.length = n := by have := h.1; simpa using this
    rw [Nat.zero_add, hcl.cell?]
    have := congrArg (fun l : List Value => l[i]?) htk
    simp only [List.getElem?_take] at this
    rw [if_pos (by omega)] at this
    rw [this, List.getElem?_map, List.getElem?_eq_getElem hi']
    rfl
/-- What is copied. -/
def ad (Ps : List Bs) (fr te : Nat) : List Bs := if fr < te then cut Ps fr te else []
/-- The expected prefixes. -/
def Added (w11 : World) (size : Nat) (P : List Bs) (v : Value) (wx : World) : Prop := ∃ ab ac, v = .slice (some ⟨ab, 0, none⟩) P.length ac ∧ Grq.Ps wx (some ⟨ab, 0, none⟩) size P ∧ Below w11.heap.size w11 wx
theorem added_more {w w11 w13 : World} {pb size m t fr te : Nat} {E : List Pf} {Ps : List Bs} {v : Value} (hS : So w w13 pb size m E) (ho : w13.ownsRow w11.heap.size 22 1 v (t + (te - fr)) ((E.map (pv size)).take t ++ ((E.map (pv size)).drop fr).take (te - fr))) (hne : v ≠ .slice none 0 0) (hft : fr < te) (hb : Below w11.heap.size w11 w13) (hPs : E.map (·.2.2) = Ps) (hlt : t ≤ m ∧ te ≤ m) :
    Added w11 size (Ps.take t ++ ad Ps fr te) v w13 := by
  have e1 : (E.map (pv size)).take t ++ ((E.map (pv size)).drop fr).take (te - fr) = (E.take t ++ (E.drop fr).take (te - fr)).map (pv size) := by
    rw [List.map_append, List.map_take, List.map_take, List.map_drop]
  have e2 : Ps.take t ++ ad Ps fr te = (E.take t ++ (E.drop fr).take (te - fr)).map (·.2.2) := by
    unfold ad cut
    rw [if_pos hft, ← hPs, List.map_append, List.map_take, List.map_take, List.map_drop]
  have hl : (Ps.take t ++ ad Ps fr te).length = t + (te - fr) := by
    rw [e2, List.length_map, List.length_append, List.length_take, List.length_take, List.length_drop, hS.ln]
    omega
  rw [e1] at ho
  rcases ho.2 with ⟨rfl, hn⟩ | ⟨g, cap, cur, rfl, hbg, _⟩
  · exact absurd rfl hne
  · refine ⟨g, cap, by rw [hl], ?_, hb⟩
    rw [e2]
    refine own_ps hS ho fun x hx => ?_
    rcases List.mem_append.1 hx with h | h
    · exact List.mem_of_mem_take h
    · exact List.mem_of_mem_drop (List.mem_of_mem_take h)
theorem added_none {w w11 w13 : World} {pb size m t fr te ab ac : Nat} {E : List Pf} {Ps : List Bs} (hS : So w w13 pb size m E) (ho : w13.ownsRow w11.heap.size 22 1 (.slice (some ⟨ab, 0, none⟩) t ac) t ((E.map (pv size)).take t)) (hft : ¬ fr < te) (hb : Below w11.heap.size w11 w13) (hPs : E.map (·.2.2) = Ps) (hlt : t ≤ m) :
    Added w11 size (Ps.take t ++ ad Ps fr te) (.slice (some ⟨ab, 0, none⟩) t ac) w13 := by
  have e2 : Ps.take t ++ ad Ps fr te = (E.take t).map (·.2.2) := by
    unfold ad
    rw [if_neg hft, List.append_nil, ← hPs, List.map_take]
  have hl : (Ps.take t ++ ad Ps fr te).length = t := by
    rw [e2, List.length_map, List.length_take, hS.ln]
    omega
  rw [← List.map_take] at ho
  refine ⟨ab, ac, by rw [hl], ?_, hb⟩
  rw [e2]
  exact own_ps hS ho fun x hx => List.mem_of_mem_take hx
def CopyAll (w : World) (bb tb sb size dl cap fr te : Nat) (P : List Bs) (e : Ending) (w' : World) : Prop :=
  e = .returned (.tuple #[]) ∧ ∃ uo un uc, Bd w' bb tb sb size dl cap P (.slice uo un uc) ∧ (fr < te → uo.isNone = false ∧ un = 16384) ∧ (¬ fr < te → uo.isNone = true) ∧ Keeps (fun k => k = bb ∨ k = tb ∨ k = sb) w w'
theorem copy_all (bb tb sb gb gt gs size sl dl cap gcap fr te : Nat) (A Ps : List Bs) (w : World) (hB : Bd w bb tb sb size dl cap A (.slice none 0 0)) (hG : Gr w gb gt gs size sl gcap Ps)
    (hap : bb ≠ gb ∧ bb ≠ gt ∧ tb ≠ gb ∧ tb ≠ gt ∧ sb ≠ gb ∧ sb ≠ gt ∧ sb < w.heap.size) (hap2 : sl ≠ 0 → bb ≠ gs ∧ tb ≠ gs ∧ sb ≠ gs) (hP : ∀ p ∈ Ps, Okp size p) (hA : ∀ p ∈ A, Okp size p) (hM : Mono sl Ps) (hMA : Mono dl (A ++ ad Ps fr te)) (hm : Ps.length ≤ 1048576) (hto : te ≤ Ps.length) (hs2 : sl ≤ 2) (hs1 : sl < size) (hs : size ≤ 4) (hgc : len size sl Ps ≤ gcap) (hgm : gcap ≤ 4194304) (hdl : dl ≤ 2) (hds : dl < size) (hfit : (A ++ ad Ps fr te).length * (size - dl) ≤ cap) (hcap : cap ≤ 4194304) :
    Calls Yba.prog 12 #[.pointer (some ⟨bb, 0, none⟩), .pointer (some ⟨gb, 0, none⟩), .int .i64 (fr : Int), .int .i64 (te : Int)] w (CopyAll w bb tb sb size dl cap fr te (A ++ ad Ps fr te)) := by
  unfold ad at *
  by_cases hft : fr < te
  · rw [if_pos hft] at *
    refine (copy_any bb tb sb gb gt gs size sl dl cap gcap fr te A Ps w hB hG hft hap hap2 hP hA hM hMA hm hto hs2 hs1 hs hgc hgm hdl hds hfit hcap).mono ?_
    rintro e w' ⟨rfl, ub, h1, h2⟩
    exact ⟨rfl, _, _, _, h1, fun _ => ⟨rfl, rfl⟩, fun h => absurd hft h, h2⟩
  · rw [if_neg hft, List.append_nil] at *
    refine (copy_none bb gb fr te w (by omega)).mono ?_
    rintro e w' ⟨rfl, h1⟩
    exact ⟨rfl, none, 0, 0, Bd.kept hB (Keeps.of_below h1 fun _ => False) (fun h => h) (fun h => h) (fun _ h => h), fun h => absurd h hft, fun _ => rfl, Keeps.of_below h1 _⟩
theorem ad_sub (Ps : List Bs) (k fr te : Nat) (h : k ≤ fr) : (Ps.take k ++ ad Ps fr te).Sublist Ps := by
  unfold ad
  split
  · unfold cut
    have h1 : ((Ps.drop fr).take (te - fr)).Sublist (Ps.drop k) := by
      refine (List.take_sublist _ _).trans ?_
      rw [show fr = k + (fr - k) by omega, ← List.drop_drop]
      exact List.drop_sublist _ _
    have := (List.Sublist.refl (Ps.take k)).append h1
    rwa [List.take_append_drop] at this
  · rw [List.append_nil]
    exact List.take_sublist _ _
theorem eq14 {w : World} {gs sl sn cc : Nat} {Ps : List Bs} {so co : Option Addr} (hsv : stv sl gs = .slice so sn sn) (hst : sl ≠ 0 → Cl w gs 23 (u32s (nb sl) (cnt sl Ps))) (hc : StC w sl sn Ps co cc) (hl2 : sl ≤ 2) :
    Calls Yba.prog 14 #[.slice so sn sn, .slice co sn cc] w fun e w' => e = .returned (.bool true) ∧ Drawn w w' := by
  by_cases h0 : sl = 0
  · obtain ⟨rfl, rfl⟩ := hc.1 h0
    unfold stv at hsv
    rw [if_pos h0] at hsv
    injection hsv with e1 e2 e3
    subst e1 e2
    refine (equal32_nil w).mono ?_
    rintro e w' ⟨rfl, rfl⟩
    exact ⟨rfl, Drawn.refl _⟩
  · obtain ⟨g, rfl, h1, h2⟩ := hc.2 h0
    unfold stv at hsv
    rw [if_neg h0] at hsv
    injection hsv with e1 e2 e3
    subst e1 e2
    have hnb : nb sl ≤ 65537 := by
      have : sl = 0 ∨ sl = 1 ∨ sl = 2 := by omega
      rcases this with rfl | rfl | rfl <;> decide
    refine equal32 gs (nb sl) g cc (nb sl) (cnt sl Ps) w (fun j hj => ?_) h2 hnb
    have := (hst h0).cell j (by rw [u32s_len]; exact hj)
    rw [this, u32s_at]
    rfl
theorem nils {w : World} {gs sl sn cc : Nat} {Ps : List Bs} {so co : Option Addr} (hsv : stv sl gs = .slice so sn sn) (hc : StC w sl sn Ps co cc) : ∃ b, so.isNone = b ∧ co.isNone = b := by
  by_cases h0 : sl = 0
  · obtain ⟨rfl, rfl⟩ := hc.1 h0
    unfold stv at hsv
    rw [if_pos h0] at hsv
    injection hsv with e1 e2 e3
    subst e1
    exact ⟨true, rfl, rfl⟩
  · obtain ⟨g, rfl, h1, h2⟩ := hc.2 h0
    unfold stv at hsv
    rw [if_neg h0] at hsv
    injection hsv with e1 e2 e3
    subst e1
    exact ⟨false, rfl, rfl⟩

set_option maxHeartbeats 4000000 in
set_option maxRecDepth 100000 in
theorem law_any (a0 a1 a2 : Nat) (ao : Option Addr) (dc : Nat) (bs : Bs) (kr fq tr : Nat) (w : World) (h0 : a0 ≤ 255) (h1 : a1 ≤ 255) (h2 : a2 ≤ 255) (hd : Aq.Arg w ao bs.length dc bs) (h8 : ∀ c ∈ bs, c < 256) (hlen : bs.length ≤ 1048576) (hk : kr ≤ 4294967295) (hf : fq ≤ 4294967295) (ht : tr ≤ 4294967295) :
    Calls Yba.prog 3 #[.int .u8 (a0 : Int), .int .u8 (a1 : Int), .int .u8 (a2 : Int), .slice ao bs.length dc, .int .u32 (kr : Int), .int .u32 (fq : Int), .int .u32 (tr : Int)] w fun e w' => e = .returned (.bool true) ∧ Below w.heap.size w w' := by
  obtain ⟨i22, hi22, hz220, hz221, hz222⟩ := info_parts All.Yba.rowInfo22
  obtain ⟨size, hsize⟩ : ∃ size, 1 + a0 % 4 = size := ⟨_, rfl⟩
  have hs1 : 1 ≤ size ∧ size ≤ 4 := by omega
  have hsI : (1 : Int) + (a0 : Int) % 4 = (size : Int) := by omega
  obtain ⟨lim, hlim⟩ : ∃ lim, (if size < 3 then size else 3) = lim := ⟨_, rfl⟩
  have hl1 : 1 ≤ lim ∧ lim ≤ 3 ∧ lim ≤ size := by split at hlim <;> omega
  have hlI : (if size < 3 then (size : Int) else 3) = (lim : Int) := by rw [← hlim]; by_cases hh : size < 3 <;> simp [hh]
  have hlI2 : min 3 (size : Int) = (lim : Int) := by rw [← hlim]; by_cases hh : size < 3 <;> simp [hh] <;> omega
  obtain ⟨sl, hsl⟩ : ∃ sl, a1 % lim = sl := ⟨_, rfl⟩
  obtain ⟨dl, hdl⟩ : ∃ dl, a2 % lim = dl := ⟨_, rfl⟩
  have hsl1 : sl < lim := by rw [← hsl]; exact Nat.mod_lt _ (by omega)
  have hdl1 : dl < lim := by rw [← hdl]; exact Nat.mod_lt _ (by omega)
  have hslI : Int.tmod (a1 : Int) (lim : Int) = (sl : Int) := by rw [← hsl]; rfl
  have hslI2 : (a1 : Int) % (lim : Int) = (sl : Int) := by rw [← hsl]; rfl
  have hdlI2 : (a2 : Int) % (lim : Int) = (dl : Int) := by rw [← hdl]; rfl
  have hdlI : Int.tmod (a2 : Int) (lim : Int) = (dl : Int) := by rw [← hdl]; rfl
  obtain ⟨m, hm⟩ : ∃ m, bs.length / size = m := ⟨_, rfl⟩
  have hmI : Int.tdiv (bs.length : Int) (size : Int) = (m : Int) := by rw [← hm]; rfl
  have hm1 : m * size ≤ bs.length := by rw [← hm]; exact Nat.div_mul_le_self _ _
  have hm2 : m ≤ 1048576 := by rw [← hm]; exact Nat.le_trans (Nat.div_le_self _ _) hlen
  obtain ⟨n, hn⟩ : ∃ n, bs.length = n := ⟨_, rfl⟩
  have HD := hid hd
  have H8 := hid h8
  have HN := hid hn
  rw [hn] at hlen hmI ⊢
  clear hd h8 hsize hlim hsl hdl hm hn
  go_enter Yba.func3, Yba.ntmps3
  go_wp2_with (at_make; refine wpList_make_full _ rfl _ _ 24 rfl 0 22 i22 _ 1 Yba.underlying24 hi22 hz220 hz221 _ _ _ _ m rfl rfl ?_ ?_ ?_ ?_ ?_ ?_)
  · rfl
  · rfl
  · rw [hz222]; omega
  · simp only [maxLen]; omega
  · exact Nat.zero_le _
  intro w1 hown hgr
  obtain ⟨cs, hcl, hl, htk, _⟩ := cl_of_own hown
  have hcln : Cln w w1 w.heap.size size m bs [] := by
    refine ⟨?_, fun j h => by simp at h, (Below.refl _ w).grown hgr (Nat.le_refl _) (by simp), Nat.le_refl _⟩
    rw [← hl, List.take_length, hl] at htk
    have : cs = List.replicate m (.slice none 0 0) := by rw [htk]; exact toList_madeCells_one _ m
    rw [List.map_nil, List.nil_append, List.length_nil, Nat.sub_zero, ← this]
    exact hcl
  have HCLN := hid hcln
  clear hown hgr hcl hl htk hcln
  go_wp2
  go_loopw [21, 61] (fun _ iv wr => ∃ gs : List (Nat × Nat), gs.length ≤ m ∧ iv = .int .i64 (gs.length : Int) ∧ Cln w wr w.heap.size size m bs gs) (fun _ iv _ => m - (intOf iv).toNat)
  case atStart => exact ⟨[], Nat.zero_le _, rfl, HCLN.out⟩
  case round =>
    obtain ⟨gs, hgs, rfl, hcl⟩ := hrel
    obtain ⟨i, hi⟩ : ∃ i, gs.length = i := ⟨_, rfl⟩
    by_cases him : i < m
    · obtain ⟨a, ha⟩ : ∃ a, i * size = a := ⟨_, rfl⟩
      have haI : (i : Int) * (size : Int) = (a : Int) := by rw [← ha, Int.natCast_mul]
      have haI2 : ((i : Int) + 1) * (size : Int) = (a : Int) + (size : Int) := by rw [Int.add_mul, haI, Int.one_mul]
      have han : a + size ≤ n := by
        have h3 : (i + 1) * size ≤ m * size := Nat.mul_le_mul_right _ him
        rw [Nat.add_mul, ha] at h3
        rw [HN.out] at hm1
        omega
      have hln := HN.out
      obtain ⟨db, doff, rfl, hrd⟩ := HD.out.rd (by rw [HN.out]; omega)
      have hdle := HD.out.le
      have hdmx := HD.out.mx
      rw [HN.out] at hdle
      have hdl0 : db < w.heap.size := hrd.lt (by rw [HN.out]; omega)
      have hok : Okp size (chunk size bs i) := chunk_ok H8.out (by rw [HN.out, Nat.add_mul, ha]; omega)
      have hrdw : Rd wr db (doff + a) (chunk size bs i) := by
        rw [← ha]
        exact (Rd.take (Rd.drop hrd (i * size)) size).below hcl.below hdl0
      have hcall := clone8 db (doff + a) size (dc - a) (chunk size bs i) wr hrdw hok.1 (by omega)
      have hst := fun g c w2 hb ht hg hc hmx => Cln.step (g := g) (c := c) (w2 := w2) hcl (by rw [hi]; exact him) hb (by rw [hi]; exact ht) hg hc hmx
      rw [hi] at hst
      rw [hi]
      have HST := hid hst
      have HCA := hid hcall
      have hda : ¬ dc = a := by omega
      have hpbl := hcl.row.lt
      clear hcl hcall hst hrdw hok hrd
      go_wp2_with fail
      refine HCA.out.mono ?_
      rintro e w2 ⟨g, c, rfl, htl, hgc, hgm, hgl, hb2⟩
      obtain ⟨k1, k2, hnext⟩ := HST.out g c w2 hb2 htl hgl hgc hgm
      have HNX := hid hnext
      have hnl : (gs ++ [(g, c)]).length = i + 1 := by simp [hi]
      have HNL := hid hnl
      clear htl hb2 hnext hnl
      go_wp2
      go_roundw
      case rel => exact ⟨gs ++ [(g, c)], by rw [HNL.out]; omega, by rw [HNL.out]; go_num, HNX.out⟩
      case measure => simp [intOf]; omega
    · obtain rfl : i = m := by omega
      have hsort := sort_so hcl hi hm2 H8.out hm1
      have HSO := hid hsort
      rw [hi]
      obtain ⟨k, hkk⟩ : ∃ k, kr % (i + 1) = k := ⟨_, rfl⟩
      have hk1 : k ≤ i := by rw [← hkk]; exact Nat.le_of_lt_succ (Nat.mod_lt _ (by omega))
      obtain ⟨fd, hfd⟩ : ∃ fd, fq % (i - k + 1) = fd := ⟨_, rfl⟩
      have hfd1 : fd ≤ i - k := by rw [← hfd]; exact Nat.le_of_lt_succ (Nat.mod_lt _ (by omega))
      obtain ⟨te, hto⟩ : ∃ te, tr % (i + 1) = te := ⟨_, rfl⟩
      have hto1 : te ≤ i := by rw [← hto]; exact Nat.le_of_lt_succ (Nat.mod_lt _ (by omega))
      have hkI : Int.tmod (kr : Int) ((i : Int) + 1) = (k : Int) := by rw [← hkk]; rfl
      have hkI2 : (kr : Int) % ((i : Int) + 1) = (k : Int) := by rw [← hkk]; rfl
      have hfI : Int.tmod (fq : Int) ((i : Int) - (k : Int) + 1) = (fd : Int) := by
        rw [← hfd, show (i : Int) - (k : Int) + 1 = ((i - k + 1 : Nat) : Int) by omega]; rfl
      have hfI2 : (fq : Int) % ((i : Int) - (k : Int) + 1) = (fd : Int) := by
        rw [← hfd, show (i : Int) - (k : Int) + 1 = ((i - k + 1 : Nat) : Int) by omega]; rfl
      have htI : Int.tmod (tr : Int) ((i : Int) + 1) = (te : Int) := by rw [← hto]; rfl
      have htI2 : (tr : Int) % ((i : Int) + 1) = (te : Int) := by rw [← hto]; rfl
      obtain ⟨fr, hfr⟩ : ∃ fr, k + fd = fr := ⟨_, rfl⟩
      have hfrI : (k : Int) + (fd : Int) = (fr : Int) := by omega
      have hfr1 : k ≤ fr ∧ fr ≤ i := by omega
      clear hcl hsort hkk hfd hto hfr
      go_wp2_with fail
      refine HSO.out.mono ?_
      rintro e w3 ⟨rfl, E, hso⟩
      obtain ⟨Ps, hPs⟩ : ∃ Ps, E.map (·.2.2) = Ps := ⟨_, rfl⟩
      have hPl : Ps.length = i := by rw [← hPs, List.length_map, hso.ln]
      have hPok : ∀ p ∈ Ps, Okp size p := by rw [← hPs]; exact hso.okp
      have hPm : ∀ lead, Mono lead Ps := by rw [← hPs]; exact hso.mono
      have hgrp := group_q (some ⟨w.heap.size, 0, none⟩) i size sl Ps w3 (by rw [← hPs]; exact hso.ps) (by omega) (by omega) (by omega) hs1.2
      rw [hPl] at hgrp
      have HS3 := hid hso
      have HGR := hid hgrp
      have HPS := hid hPs
      have HPL := hid hPl
      have HPO := hid hPok
      have HPM := hid hPm
      clear hso hgrp hPs hPl hPok hPm
      go_wp2_with fail
      refine HGR.out.mono ?_
      rintro e w4 ⟨gt, gcap, gs', rfl, hga⟩
      obtain ⟨so, sn, hsv⟩ := stv_form sl gs'
      obtain ⟨cellsG, hcg⟩ : ∃ cg : Array Value, cg = #[.int .i64 (size : Int), .int .i64 (sl : Int), .slice so sn sn, .slice (some ⟨gt, 0, none⟩) (len size sl Ps) gcap] := ⟨_, rfl⟩
      have hgb : Cl (w4.alloc (.cells #[.int .i64 (size : Int), .int .i64 (sl : Int), .slice so sn sn, .slice (some ⟨gt, 0, none⟩) (len size sl Ps) gcap] 31)) w4.heap.size 31 [.int .i64 (size : Int), .int .i64 (sl : Int), stv sl gs', .slice (some ⟨gt, 0, none⟩) (len size sl Ps) gcap] := by
        rw [hsv]
        exact Cl.new w4 31 _
      have hk45 := Keeps.alloc w4 (.cells #[.int .i64 (size : Int), .int .i64 (sl : Int), .slice so sn sn, .slice (some ⟨gt, 0, none⟩) (len size sl Ps) gcap] 31) (fun _ => False)
      have hG5 : Gr (w4.alloc (.cells #[.int .i64 (size : Int), .int .i64 (sl : Int), .slice so sn sn, .slice (some ⟨gt, 0, none⟩) (len size sl Ps) gcap] 31)) w4.heap.size gt gs' size sl gcap Ps := ⟨hgb, hga.tl.same (hk45.block _ hga.tl.lt (fun h => h)), fun hl => hk45.cl (hga.st hl) (fun h => h)⟩
      have hS5 := (HS3.out.beyond hga.below).beyond ((Below.refl _ w4).alloc (Nat.le_refl _) (.cells #[.int .i64 (size : Int), .int .i64 (sl : Int), .slice so sn sn, .slice (some ⟨gt, 0, none⟩) (len size sl Ps) gcap] 31))
      have hgcap := hga.cap
      have hglow := hga.low
      have hw3 := hga.below.size
      have HSV := hid hsv
      rw [hsv]
      have HG5 := hid hG5
      have HS5 := hid hS5
      have HGC := hid hgcap
      have HGL := hid hglow
      clear hga hgb hk45 hG5 hS5 hgcap hglow hsv hcg
      go_wp2_with fail
      have hgb5 : w4.heap.size < (w4.alloc (.cells #[.int .i64 (size : Int), .int .i64 (sl : Int), .slice so sn sn, .slice (some ⟨gt, 0, none⟩) (len size sl Ps) gcap] 31)).heap.size := by simp
      generalize w4.alloc (.cells #[.int .i64 (size : Int), .int .i64 (sl : Int), .slice so sn sn, .slice (some ⟨gt, 0, none⟩) (len size sl Ps) gcap] 31) = W5 at *
      obtain ⟨gb, hgbe⟩ : ∃ gb, w4.heap.size = gb := ⟨_, rfl⟩
      rw [hgbe] at HG5 hgb5 ⊢
      have hlenT : (tls sl Ps).length = len size sl Ps := tls_len HPO.out
      obtain ⟨lt, hlt⟩ : ∃ lt, len size sl Ps = lt := ⟨_, rfl⟩
      rw [hlt] at hlenT ⊢
      have hltm : lt ≤ 4194304 := by rw [← hlenT]; exact Nat.le_trans HGC.out.1 HGC.out.2
      have hc1 := clone8 gt 0 lt gcap (tls sl Ps) W5 HG5.out.tl.rd hlenT hltm
      have HC1 := hid hc1
      have HLT := hid hlt
      clear hc1 hlt
      refine HC1.out.mono ?_
      rintro e w6 ⟨tg, tc, rfl, htc, hq1, hq2, hq3, hb56⟩
      have hG6 := Gr.kept HG5.out (Keeps.of_below hb56 fun _ => False) (fun h => h) (fun h => h) (fun _ h => h)
      have hS6 := HS5.out.beyond hb56
      have hst6 := clone_st HSV.out hG6.st (by omega)
      have d2 : w6.cell? ⟨gb, 2, none⟩ = some (.slice so sn sn) := by
        have := hG6.gr.cell 2 (by simp)
        simp only [List.getElem_cons_succ, List.getElem_cons_zero] at this
        rw [this, HSV.out]
      have HG6 := hid hG6
      have HS6 := hid hS6
      have HST6 := hid hst6
      have HTC := hid htc
      clear htc hG6 hS6 hst6 hb56
      go_wp2_with fail
      refine HST6.out.mono ?_
      rintro e w7 ⟨co, cc, rfl, hstc, hb67⟩
      have hG7 := Gr.kept HG6.out (Keeps.of_below hb67 fun _ => False) (fun h => h) (fun h => h) (fun _ h => h)
      have hS7 := HS6.out.beyond hb67
      have htc7 : Tl w7 tg tc (tls sl Ps) := HTC.out.same (hb67.block _ HTC.out.lt)
      obtain ⟨cap, hcap⟩ : ∃ cap, i * (size - dl) = cap := ⟨_, rfl⟩
      have hnew := new_any size dl i cap w7 (by omega) (by omega) hs1.2 hm2 hcap
      have HG7 := hid hG7
      have HS7 := hid hS7
      have HTC7 := hid htc7
      have HSTC := hid hstc
      have HNEW := hid hnew
      have HCAP := hid hcap
      clear hG7 hS7 htc7 hstc hnew hcap hb67 d2
      go_wp2_with fail
      refine HNEW.out.mono ?_
      rintro e w8 ⟨bb, tb, sb, rfl, hbd, hbb, htb, hsb, hb78⟩
      have hG8 := Gr.kept HG7.out (Keeps.of_below hb78 fun _ => False) (fun h => h) (fun h => h) (fun _ h => h)
      have hS8 := HS7.out.beyond hb78
      have htc8 : Tl w8 tg tc (tls sl Ps) := HTC7.out.same (hb78.block _ HTC7.out.lt)
      have hstc8 := HSTC.out.below hb78
      have HG8 := hid hG8
      have HS8 := hid hS8
      have HTC8 := hid htc8
      have HSTC8 := hid hstc8
      obtain ⟨sb2, hbd2, hsb2, hsb3⟩ := Bd.place hbd htb hsb
      have HBD := hid hbd2
      have HB78 := hid hb78
      clear hG8 hS8 htc8 hstc8 hbd hb78 hbd2
      obtain ⟨i5, hi5, hz50, hz51, hz52⟩ := info_parts Bld.Yba.rowInfo5
      go_wp2_with fail
      go_loopw [29, 30] (fun pv iv wr => ∃ t nt : Nat, t ≤ k ∧ iv = .int .i64 (t : Int) ∧ t * size = nt ∧ wr.ownsRow w8.heap.size 5 1 pv nt (u8s (Ps.take t).flatten) ∧ Below w8.heap.size w8 wr) (fun _ iv _ => k - (intOf iv).toNat)
      case atStart => exact ⟨0, 0, Nat.zero_le _, rfl, by simp, World.ownsRow_nil _ _ _ _, Below.refl _ _⟩
      case round =>
        obtain ⟨t, nt, htk, rfl, hnt, hown, hb8⟩ := hrel
        have hSr := HS8.out.beyond hb8
        by_cases htk' : t < k
        · have htE : t < E.length := by rw [hSr.ln]; omega
          obtain ⟨r1, r2, r3, r4, r5, r6⟩ := hSr.rd E[t] (List.getElem_mem htE)
          have hcell := hSr.row.cell t (by simpa using htE)
          rw [List.getElem_map] at hcell
          unfold pv at hcell
          obtain ⟨g, hg⟩ : ∃ g, E[t].1 = g := ⟨_, rfl⟩
          obtain ⟨c, hc⟩ : ∃ c, E[t].2.1 = c := ⟨_, rfl⟩
          obtain ⟨p, hp⟩ : ∃ p, E[t].2.2 = p := ⟨_, rfl⟩
          rw [hg, hc] at hcell
          rw [hg, hp] at r1
          rw [hp] at r6
          have hpt : Ps.take (t + 1) = Ps.take t ++ [p] := by
            rw [List.take_add_one, ← HPS.out, List.getElem?_map, List.getElem?_eq_getElem htE]
            simp [hp]
          have hnt2 : nt + size ≤ 4194304 := by
            have h3 : (t + 1) * size ≤ i * size := Nat.mul_le_mul_right _ (by omega)
            rw [Nat.add_mul, hnt] at h3
            have h4 : i * size ≤ 1048576 * 4 := Nat.mul_le_mul hm2 hs1.2
            omega
          have hnl : (u8s p).length = size * 1 := by rw [u8s_len, r6.1, Nat.mul_one]
          have hrc := rd_cells r1 ⟨g, 0, none⟩ rfl
          have hm63 : nt + size ≤ maxLen := by simp only [maxLen]; omega
          have hbase : w8.heap.size ≤ wr.heap.size := hb8.size
          have hby : (nt + size) * 1 ≤ 140737488355328 := by omega
          have HO := hid hown
          have HRC := hid hrc
          have HPT := hid hpt
          have HB8 := hid hb8
          have HNT := hid hnt
          have hnx : (t + 1) * size = nt + size := by rw [Nat.add_mul, hnt, Nat.one_mul]
          have HNX := hid hnx
          clear hown hrc hpt hb8 hSr r1 r2 r3 r4 r5 r6 hg hc hp hnt hnx
          go_wp2_with (at_builtin; refine wpList_append_own wr rfl _ _ 22 rfl w8.heap.size 5 i5 _ 1 1 Yba.underlying22 hi5 hz50 hz51 hz52 rfl (by decide) u29 nt (u8s (Ps.take t).flatten) rfl HO.out ⟨g, 0, none⟩ size c (u8s p) rfl hnl HRC.out (u8_one p) hm63 hby hbase ?_)
          intro v' w9 hown9 hgr9 _
          have hb9 : Below w8.heap.size w8 w9 := HB8.out.grown hgr9 hbase (fun k hk => (HO.out.lt k hk).1)
          have hown10 : w9.ownsRow w8.heap.size 5 1 v' (nt + size) (u8s (Ps.take (t + 1)).flatten) := by
            rw [HPT.out, List.flatten_append]
            have : u8s ((Ps.take t).flatten ++ [p].flatten) = u8s (Ps.take t).flatten ++ u8s p := by unfold u8s; rw [List.map_append, List.flatten_cons, List.flatten_nil, List.append_nil]
            rw [this]
            exact hown9
          have HO10 := hid hown10
          have HB9 := hid hb9
          clear hown9 hgr9 hb9 hown10 hbase
          go_wp2
          go_roundw
          case rel => exact ⟨t + 1, nt + size, by omega, by go_num, HNX.out, HO10.out, HB9.out⟩
          case measure => simp [intOf]; omega
        · obtain rfl : t = k := by omega
          obtain ⟨qo, qc, hv, hq1, hq2, hq3, hq4, hq5, hq6⟩ := own_arg hown
          subst hv
          have hBr := Bd.kept HBD.out (Keeps.of_below hb8 fun _ => False) (fun h => h) (fun h => h) (fun _ h => h)
          have lbb : bb < w8.heap.size := HBD.out.hd.lt
          have ltb : tb < w8.heap.size := by obtain ⟨cs, h1, _⟩ := HBD.out.tl; exact h1.lt
          have hsub : (Ps.take t ++ ad Ps fr te).Sublist Ps := ad_sub Ps t fr te (by omega)
          have hcapm : cap ≤ 4194304 := by
            rw [← HCAP.out]
            exact Nat.le_trans (Nat.mul_le_mul hm2 (show _ ≤ 4 by omega)) (by decide)
          have hadd := Aq.add_q bb tb sb2 size dl cap [] (Ps.take t) (.slice none 0 0) qo nt qc wr hBr ⟨hq1, hq4, hq5, hq3, hq6⟩ (fun b off e _ h => by have := hq2 b off e; omega) (fun p hp => HPO.out p (List.mem_of_mem_take (by simpa using hp))) (by rw [List.nil_append]; exact (HPM.out dl).sublist (List.take_sublist _ _)) (by rw [List.nil_append, ← HCAP.out]; exact Nat.mul_le_mul_right _ (by rw [List.length_take, HPL.out]; omega)) hcapm (by omega) (by omega) hs1.2
          have HADD := hid hadd
          have HSUB := hid hsub
          have HB8r := hid hb8
          have hw87 := HB78.out.size
          clear hadd hsub hb8 hBr hSr hown hq1 hq2 hq3 hq6
          go_wp2_with fail
          refine HADD.out.mono ?_
          rintro e w9 ⟨rfl, hbd9, hk9⟩
          rw [List.nil_append] at hbd9
          have hlow : ∀ k, (k = bb ∨ k = tb ∨ k = sb2) → w7.heap.size ≤ k := by omega
          have hb7r := HB78.out.trans (HB8r.out.mono hw87)
          have hb79 := hb7r.trans (hk9.below hb7r.size hlow)
          have hG9 := Gr.kept HG7.out (Keeps.of_below hb79 fun _ => False) (fun h => h) (fun h => h) (fun _ h => h)
          have lgb := HG7.out.gr.lt
          have lgt := HG7.out.tl.lt
          have hsb9 : sb2 < w9.heap.size := Nat.lt_of_lt_of_le hsb2 (Nat.le_trans HB8r.out.size hk9.size)
          have hcpy := copy_all bb tb sb2 gb gt gs' size sl dl cap gcap fr te (Ps.take t) Ps w9 hbd9 hG9 (by omega) (fun hl => by have := (HG7.out.st hl).lt; omega) HPO.out (fun p hp => HPO.out p (List.mem_of_mem_take hp)) (HPM.out sl) ((HPM.out dl).sublist HSUB.out) (by rw [HPL.out]; exact hm2) (by rw [HPL.out]; exact hto1) (by omega) (by omega) hs1.2 (by rw [HLT.out, ← hlenT]; exact HGC.out.1) HGC.out.2 (by omega) (by omega) (by rw [← HCAP.out, ← HPL.out]; exact Nat.mul_le_mul_right _ HSUB.out.length_le) hcapm
          have HCPY := hid hcpy
          have HB79 := hid hb79
          clear hcpy hb79 hb7r hG9 hk9 hbd9 lgb lgt
          go_wp2_with fail
          refine HCPY.out.mono ?_
          rintro e w10 ⟨rfl, uo, un, uc, hbd10, hu1, hu2, hk10⟩
          have hb710 := HB79.out.trans (hk10.below HB79.out.size hlow)
          have hG10 := Gr.kept HG7.out (Keeps.of_below hb710 fun _ => False) (fun h => h) (fun h => h) (fun _ h => h)
          have hS10 := HS7.out.beyond hb710
          have htc10 : Tl w10 tg tc (tls sl Ps) := HTC7.out.same (hb710.block _ HTC7.out.lt)
          have hstc10 := HSTC.out.below hb710
          have heq13 := equal_any gt gcap tg tc (tls sl Ps) w10 hG10.tl.rd htc10.rd
          rw [hlenT] at heq13
          have heq14 := eq14 HSV.out hG10.st hstc10 (by omega)
          obtain ⟨nb0, hn1, hn2⟩ := nils HSV.out hstc10
          have d0 := hG10.gr.cell 0 (by simp)
          have d1 := hG10.gr.cell 1 (by simp)
          have d2 := hG10.gr.cell 2 (by simp)
          have d3 := hG10.gr.cell 3 (by simp)
          simp only [List.getElem_cons_succ, List.getElem_cons_zero] at d0 d1 d2 d3
          rw [HSV.out] at d2
          rw [HLT.out] at d3
          have HE13 := hid heq13
          have HE14 := hid heq14
          have HBD10 := hid hbd10
          have HU1 := hid hu1
          have HU2 := hid hu2
          have HB710 := hid hb710
          clear heq13 heq14 hbd10 hu1 hu2 hb710 hG10 hS10 htc10 hstc10 hk10 hlow
          go_wp2_with fail
          refine HE13.out.mono ?_
          rintro e wq ⟨rfl, hwq⟩
          rw [hwq]
          clear hwq
          go_wp2_with fail
          refine HE14.out.mono ?_
          rintro e w11 ⟨rfl, hd11⟩
          have hb711 := HB710.out.trans (hd11.below _)
          have hbd11 := Bd.kept HBD10.out (Keeps.of_drawn hd11 fun _ => False) (fun h => h) (fun h => h) (fun _ h => h)
          have hS11 := HS7.out.beyond hb711
          have d2' := (Drawn.cell hd11 _).trans d2
          have hnil29 := fun w a n c n' c' => Lib.run_eql_slice_nil (P := Yba.prog) w 29 23 a n c n' c' Yba.underlying29
          have hcl15 := clone24 w.heap.size t i (E.map (pv size)) w11 hS11.row (by rw [List.length_map, hS11.ln]; omega) (by omega) (fun u hu => by obtain ⟨x, _, rfl⟩ := List.mem_map.1 hu; rfl)
          have HC15 := hid hcl15
          have HBD11 := hid hbd11
          have HB711 := hid hb711
          have HS11 := hid hS11
          clear hd11 hb711 hbd11 hS11 hcl15 d0 d1 d2 d3
          go_wp2_with fail
          refine HC15.out.mono ?_
          rintro e w12 ⟨ab, ac, rfl, hoA, hb12⟩
          have hS12 := HS11.out.beyond hb12
          have hbd12 := Bd.kept HBD11.out (Keeps.of_below hb12 fun _ => False) (fun h => h) (fun h => h) (fun _ h => h)
          have HS12 := hid hS12
          have HBD12 := hid hbd12
          have HOA := hid hoA
          have HB12 := hid hb12
          clear hb12 hS12 hbd12 hoA
          go_upto_if 173 with fail
          go_cut [31] from 173 to 179 (fun v wx => Added w11 size (Ps.take t ++ ad Ps fr te) v wx)
          case first =>
            by_cases hft : fr < te
            · have hftI : (fr : Int) < (te : Int) := by omega
              have hEl : E.length = i := HS12.out.ln
              have hNL : (((E.drop fr).take (te - fr)).map (pv size)).length = (te - fr) * 1 := by
                rw [List.length_map, List.length_take, List.length_drop]
                omega
              have hcs : ∀ j u, (((E.drop fr).take (te - fr)).map (pv size))[j]? = some u → w12.cell? ((⟨w.heap.size, fr, none⟩ : Addr).add j) = some u := by
                intro j u hj
                rw [show (⟨w.heap.size, fr, none⟩ : Addr).add j = ⟨w.heap.size, fr + j, none⟩ from by simp [Addr.add], HS12.out.row.cell?, List.getElem?_map]
                rw [List.getElem?_map, List.getElem?_take] at hj
                split at hj
                · rw [List.getElem?_drop] at hj
                  exact hj
                · cases hj
              have hone : ∀ u ∈ (((E.drop fr).take (te - fr)).map (pv size)), u.oneCell' = true := by
                intro u hu
                obtain ⟨x, _, rfl⟩ := List.mem_map.1 hu
                rfl
              have hM : t + (te - fr) ≤ maxLen := by simp only [maxLen]; omega
              have hby : (t + (te - fr)) * 24 ≤ 140737488355328 := by omega
              have hdi : ¬ i = fr := by omega
              have HNL := hid hNL
              have HCS := hid hcs
              have HONE := hid hone
              have HM := hid hM
              have HBY := hid hby
              clear hNL hcs hone hM hby hEl
              go_wp2_with (at_builtin; refine wpList_append_own w12 rfl _ _ 24 rfl w11.heap.size 22 i22 _ 1 24 Yba.underlying24 hi22 hz220 hz221 hz222 rfl (by decide) (.slice (some ⟨ab, 0, none⟩) t ac) t ((E.map (pv size)).take t) rfl HOA.out ⟨w.heap.size, fr, none⟩ (te - fr) (i - fr) (((E.drop fr).take (te - fr)).map (pv size)) rfl HNL.out HCS.out HONE.out HM.out HBY.out HB12.out.size ?_)
              intro v' w13 hown13 hgr13 hiff
              have hb13 : Below w11.heap.size w11 w13 := HB12.out.grown hgr13 HB12.out.size (fun k hk => (HOA.out.lt k hk).1)
              have hadded := added_more (HS11.out.beyond hb13) hown13 hiff hft hb13 HPS.out (by omega)
              have HAD := hid hadded
              clear hown13 hgr13 hiff hb13 hadded
              go_wp2
              go_meet
              case rel => exact HAD.out
            · have hftI : ¬ (fr : Int) < (te : Int) := by omega
              have hadded := added_none (HS11.out.beyond HB12.out) HOA.out hft HB12.out HPS.out (by omega)
              have HAD := hid hadded
              clear hadded
              go_wp2
              go_meet
              case rel => exact HAD.out
          case rest =>
            obtain ⟨ab2, ac2, hv31, hps, hbc⟩ := hcut
            subst hv31
            obtain ⟨P, hP⟩ : ∃ P, Ps.take t ++ ad Ps fr te = P := ⟨_, rfl⟩
            rw [hP] at hps HSUB HBD11 ⊢
            have hPl : P.length ≤ 1048576 := by have := HSUB.out.length_le; rw [HPL.out] at this; omega
            have hPok : ∀ p ∈ P, Okp size p := fun p hp => HPO.out p (HSUB.out.subset hp)
            have hPm : Mono dl P := (HPM.out dl).sublist HSUB.out
            have hbdc := Bd.kept HBD11.out (Keeps.of_below hbc fun _ => False) (fun h => h) (fun h => h) (fun _ h => h)
            have hgrp2 := group_q (some ⟨ab2, 0, none⟩) ac2 size dl P wc hps hPl (by omega) (by omega) hs1.2
            have hbw : Below w.heap.size w wc := HS11.out.below.trans (hbc.mono HS11.out.below.size)
            obtain ⟨np, hnp⟩ : ∃ np, P.length = np := ⟨_, rfl⟩
            rw [hnp] at hgrp2 hPl ⊢
            have HPS2 := hid hps
            have HBDC := hid hbdc
            have HGR2 := hid hgrp2
            have HBW := hid hbw
            have HPO2 := hid hPok
            have HPM2 := hid hPm
            have HNP := hid hnp
            clear hps hbdc hgrp2 hbw hPok hPm hnp hbc hP HOA HB12 HS12 HBD12 HS11 HBD11 HSUB
            go_wp2_with fail
            refine HGR2.out.mono ?_
            rintro e w14 ⟨et, ecap, es, rfl, hga⟩
            obtain ⟨eo, en, hsv2⟩ := stv_form dl es
            have hxb : Cl (w14.alloc (.cells #[.int .i64 (size : Int), .int .i64 (dl : Int), .slice eo en en, .slice (some ⟨et, 0, none⟩) (len size dl P) ecap] 31)) w14.heap.size 31 [.int .i64 (size : Int), .int .i64 (dl : Int), .slice eo en en, .slice (some ⟨et, 0, none⟩) (len size dl P) ecap] := Cl.new w14 31 _
            have hk45 := Keeps.alloc w14 (.cells #[.int .i64 (size : Int), .int .i64 (dl : Int), .slice eo en en, .slice (some ⟨et, 0, none⟩) (len size dl P) ecap] 31) (fun _ => False)
            have hkc := (Keeps.of_below hga.below fun _ => False).trans hk45
            have hbc5 : Below wc.heap.size wc _ := hkc.below (Nat.le_refl _) (fun _ h => h.elim)
            have hB15 := Bd.kept HBDC.out hkc (fun h => h) (fun h => h) (fun _ h => h)
            have hT15 := hga.tl.same (hk45.block _ hga.tl.lt (fun h => h))
            have hE15 : dl ≠ 0 → _ := fun hl => hk45.cl (hga.st hl) (fun h => h)
            have hP15 := HPS2.out.below hbc5
            have hbw5 := HBW.out.trans (hbc5.mono HBW.out.size)
            rw [hsv2]
            have HXB := hid hxb
            have HB15 := hid hB15
            have HT15 := hid hT15
            have HE15 := hid hE15
            have HP15 := hid hP15
            have HBW5 := hid hbw5
            have HSV2 := hid hsv2
            clear hga hxb hk45 hkc hbc5 hB15 hT15 hE15 hP15 hbw5 hsv2 HBW HBDC HPS2
            go_upto_region 37 with fail
            have lenT : (tls dl P).length = len size dl P := tls_len HPO2.out
            obtain ⟨lt2, hlt2⟩ : ∃ lt2, len size dl P = lt2 := ⟨_, rfl⟩
            generalize w14.alloc (.cells #[.int .i64 (size : Int), .int .i64 (dl : Int), .slice eo en en, .slice (some ⟨et, 0, none⟩) (len size dl P) ecap] 31) = W15 at *
            obtain ⟨xb, hxbe⟩ : ∃ xb, w14.heap.size = xb := ⟨_, rfl⟩
            rw [hxbe] at HXB ⊢
            rw [hlt2] at lenT HXB
            obtain ⟨bo, bn, hsv3⟩ := stv_form dl sb2
            have b0 := HB15.out.hd.cell 0 (by simp)
            have b1 := HB15.out.hd.cell 1 (by simp)
            have b2 := HB15.out.hd.cell 2 (by simp)
            have b3 := HB15.out.hd.cell 3 (by simp)
            have b4 := HB15.out.hd.cell 4 (by simp)
            have b5 := HB15.out.hd.cell 5 (by simp)
            have x2 := HXB.out.cell 2 (by simp)
            have x3 := HXB.out.cell 3 (by simp)
            simp only [List.getElem_cons_succ, List.getElem_cons_zero] at b0 b1 b2 b3 b4 b5 x2 x3
            rw [hsv3] at b2
            rw [hlt2] at b3
            have hbrd : Rd W15 tb 0 (tls dl P) := by
              obtain ⟨cs, c1, c2, c3⟩ := HB15.out.tl
              exact c1.rd (by rw [lenT, ← hlt2]; exact c3)
            have heq := fun n => equal_any tb cap et ecap (tls dl P) (W15.drewN n) (hbrd.same rfl) (HT15.out.rd.same rfl)
            rw [lenT] at heq
            have HEQ := hid heq
            have HSV3 := hid hsv3
            have hneq29 := fun w a n c n' c' => run_neq_slice_nil_any (P := Yba.prog) w 29 23 a n c n' c' Yba.underlying29
            have hneq22 := fun w a n c n' c' => run_neq_slice_nil_any (P := Yba.prog) w 22 5 a n c n' c' Yba.underlying22
            clear heq hbrd lenT hlt2 hxbe hsv3
            go_wp2_with fail
            go_quiet ((go_at_call 13; exact Calls.quiet_of_same (HEQ.out _)))
            have hdr : Drawn W15 (W15.drewN nq) := ⟨nq, rfl⟩
            generalize W15.drewN nq = W16 at hdr ⊢
            replace b2 := (Drawn.cell hdr _).trans b2
            replace b4 := (Drawn.cell hdr _).trans b4
            replace b5 := (Drawn.cell hdr _).trans b5
            replace x2 := (Drawn.cell hdr _).trans x2
            have hbw6 := HBW5.out.trans (hdr.below _)
            have HBW6 := hid hbw6
            have HDR := hid hdr
            clear b0 b1 b3 x3 hbw6 hdr
            by_cases hdl0 : dl = 0
            · have hdlZ : (dl : Int) = 0 := by omega
              have hbo : bo = none := by
                have := HSV3.out
                unfold stv at this
                rw [if_pos hdl0] at this
                injection this with e1 _ _
                exact e1.symm
              rw [hbo] at b2
              have hnx0 : nx dl P = 0 := if_pos hdl0
              rw [hnx0] at b4
              clear hbo hnx0
              by_cases hft : fr < te
              · have hftI : (fr : Int) < (te : Int) := by omega
                obtain ⟨_, hun⟩ := HU1.out hft
                rw [hun] at b5
                clear hun
                go_wp2
                go_ret
                exact ⟨rfl, HBW6.out⟩
              · have hftI : ¬ (fr : Int) < (te : Int) := by omega
                have hun := HU2.out hft
                go_wp2
                go_ret
                exact ⟨rfl, HBW6.out⟩
            · have hdlZ : ¬ (dl : Int) = 0 := by omega
              obtain ⟨N, hN⟩ : ∃ N, nb dl = N := ⟨_, rfl⟩
              have hNb : N ≤ 65537 := by
                have : dl = 1 ∨ dl = 2 := by omega
                rw [← hN]
                rcases this with e | e <;> rw [e] <;> decide
              have hbo : bo = some ⟨sb2, 0, none⟩ ∧ bn = N := by
                have := HSV3.out
                unfold stv at this
                rw [if_neg hdl0, hN] at this
                injection this with e1 e2 _
                exact ⟨e1.symm, e2.symm⟩
              have heo : eo = some ⟨es, 0, none⟩ ∧ en = N := by
                have := HSV2.out
                unfold stv at this
                rw [if_neg hdl0, hN] at this
                injection this with e1 e2 _
                exact ⟨e1.symm, e2.symm⟩
              rw [hbo.1, hbo.2] at b2
              rw [heo.1, heo.2] at x2
              obtain ⟨nn, hnn⟩ : ∃ nn, nxt dl P = nn := ⟨_, rfl⟩
              have hnx0 : nx dl P = nn := by rw [← hnn]; exact if_neg hdl0
              rw [hnx0] at b4
              have hcb : ∀ j, j < N → W16.cell? ⟨sb2, j, none⟩ = some (.int .u32 (stB dl P j : Int)) := fun j hj => by
                rw [Drawn.cell HDR.out, (HB15.out.st hdl0).cell j (by rw [u32s_len, hN]; exact hj), u32s_at]
                rfl
              have hce : ∀ j, j < N → W16.cell? ⟨es, j, none⟩ = some (.int .u32 (cnt dl P j : Int)) := fun j hj => by
                rw [Drawn.cell HDR.out, (HE15.out hdl0).cell j (by rw [u32s_len, hN]; exact hj), u32s_at]
                rfl
              have HCB := hid hcb
              have HCE := hid hce
              have HNN := hid hnn
              clear hbo heo hnx0 hcb hce hnn hN
              go_upto_if 226 with fail
              go_cut [33] from 210 to 235 (fun v wx => v = .int .i64 (nn : Int) ∧ wx = W16)
              case first =>
                by_cases hnp0 : 0 < np
                · obtain ⟨q, hq⟩ : ∃ q, np = q + 1 := ⟨np - 1, by omega⟩
                  have hqP : q < P.length := by rw [HNP.out]; omega
                  obtain ⟨pb, poff, g, c, hpe, hpc, hpr, hp1, hp2, _, hp4⟩ := HP15.out.at_ q hqP
                  cases hpe
                  rw [Nat.zero_add] at hpc
                  replace hpc := (Drawn.cell HDR.out _).trans hpc
                  have hpo := HPO2.out P[q] (List.getElem_mem hqP)
                  have hbk := bucket_any g 0 c dl P[q] W16 (hpr.same (by rw [Drawn.heap HDR.out])) hpo.2 (by rw [hpo.1]; omega) (by omega) (by rw [hpo.1]; exact hs1.2)
                  rw [hpo.1] at hbk
                  have hnq : bkt dl P[q] + 1 = nn := by
                    rw [← HNN.out]
                    have : P = P.take q ++ [P[q]] := by
                      have h1 := List.take_append_drop q P
                      rw [List.drop_eq_getElem_cons hqP, List.drop_eq_nil_of_le (by rw [HNP.out]; omega)] at h1
                      exact h1.symm
                    conv => rhs; rw [this]
                    rw [nxt_snoc]
                  have hlt64 : bkt dl P[q] < 65536 := by
                    have h1 := bkt_lt (lead := dl) hpo (by omega)
                    have : dl = 1 ∨ dl = 2 := by omega
                    rcases this with e | e <;> rw [e] at h1 ⊢ <;> omega
                  obtain ⟨bk, hbke⟩ : ∃ bk, bkt dl P[q] = bk := ⟨_, rfl⟩
                  rw [hbke] at hbk hnq hlt64
                  have hnqI : (bk : Int) + 1 = (nn : Int) := by omega
                  have hqI : (np : Int) - 1 = (q : Int) := by omega
                  have hqI2 : (q : Int) < (np : Int) := by omega
                  have hnpI : (0 : Int) < (np : Int) := by omega
                  have HBK := hid hbk
                  clear hbk hpo hnq hbke hpr hq hqP hp1 hp2 hp4
                  go_wp2_with fail
                  refine HBK.out.mono ?_
                  rintro e wz ⟨rfl, hwz⟩
                  rw [hwz]
                  clear hwz
                  go_wp2
                  go_meet
                  case rel => exact ⟨rfl, rfl⟩
                · have hnpI : ¬ (0 : Int) < (np : Int) := by omega
                  have hnq : nn = 0 := by
                    rw [← HNN.out, List.eq_nil_of_length_eq_zero (by rw [HNP.out]; omega : P.length = 0)]
                    rfl
                  go_wp2
                  go_meet
                  case rel => exact ⟨by rw [hnq]; rfl, rfl⟩
              case rest =>
                obtain ⟨hv33, hwc⟩ := hcut
                subst hv33
                rw [hwc]
                clear hwc
                go_wp2_with fail
                go_quiet (fail)
                have hdr2 : Drawn W16 (W16.drewN nq) := ⟨nq, rfl⟩
                generalize W16.drewN nq = W17 at hdr2 ⊢
                replace b2 := (Drawn.cell hdr2 _).trans b2
                replace b5 := (Drawn.cell hdr2 _).trans b5
                replace x2 := (Drawn.cell hdr2 _).trans x2
                have hbw7 := HBW6.out.trans (hdr2.below _)
                have HBW7 := hid hbw7
                have HDR2 := hid hdr2
                clear b4 hbw7 hdr2
                go_wp2_with fail
                go_loopw [34, 35] (fun jv _ wr => ∃ j : Nat, j ≤ N ∧ jv = .int .i64 (j : Int) ∧ W17 = wr) (fun jv _ _ => N - (intOf jv).toNat)
                case atStart => exact ⟨0, Nat.zero_le _, rfl, rfl⟩
                case round =>
                  obtain ⟨j, hj, rfl, rfl⟩ := hrel
                  by_cases hjN : j < N
                  · have cb := (Drawn.cell HDR2.out _).trans (HCB.out j hjN)
                    have ce := (Drawn.cell HDR2.out _).trans (HCE.out j hjN)
                    have hjNI : (j : Int) < (N : Int) := by omega
                    by_cases hjn : j < nn
                    · have hjnI : (j : Int) < (nn : Int) := by omega
                      have hst : stB dl P j = cnt dl P j := if_pos (by rw [HNN.out]; exact hjn)
                      rw [hst] at cb
                      obtain ⟨v, hv⟩ : ∃ v, cnt dl P j = v := ⟨_, rfl⟩
                      rw [hv] at cb ce
                      clear hst hv
                      go_wp2
                      go_roundw
                      case rel => exact ⟨j + 1, by omega, by go_num, trivial⟩
                      case measure => simp [intOf]; omega
                    · have hjnI : ¬ (j : Int) < (nn : Int) := by omega
                      have hst : stB dl P j = 0 := if_neg (by rw [HNN.out]; exact hjn)
                      rw [hst] at cb
                      clear hst
                      go_wp2
                      go_roundw
                      case rel => exact ⟨j + 1, by omega, by go_num, trivial⟩
                      case measure => simp [intOf]; omega
                  · obtain rfl : j = N := by omega
                    by_cases hft : fr < te
                    · have hftI : (fr : Int) < (te : Int) := by omega
                      obtain ⟨_, hun⟩ := HU1.out hft
                      rw [hun] at b5
                      clear hun
                      go_wp2
                      go_ret
                      exact ⟨rfl, HBW7.out⟩
                    · have hftI : ¬ (fr : Int) < (te : Int) := by omega
                      have hun := HU2.out hft
                      go_wp2
                      go_ret
                      exact ⟨rfl, HBW7.out⟩
/-! More than 2^20 bytes: nothing is done. -/
set_option maxHeartbeats 1000000 in
set_option maxRecDepth 100000 in
theorem law_big (a0 a1 a2 : Int) (a3 : Option Addr) (len3 cap3 : Nat) (a4 a5 a6 : Int) (w : World) (h : 1048576 < len3) :
    Calls Yba.prog 3 #[.int .u8 a0, .int .u8 a1, .int .u8 a2, .slice a3 len3 cap3, .int .u32 a4, .int .u32 a5, .int .u32 a6] w fun e w' => e = .returned (.bool true) ∧ Below w.heap.size w w' := by
  have hI : (1048576 : Int) < (len3 : Int) := by omega
  go_enter Yba.func3, Yba.ntmps3
  go_wp2
  go_ret
  exact ⟨rfl, Below.refl _ _⟩
end Go.Proofs.Ybulkehgw.Law
