/-
  chunks$1 (f35) at a group that leaves lead bytes out.
-/
import Derived.Test.YbulkehgwChk
import Derived.Deep.Cut
namespace Go.Proofs.Ybulkehgw.Chl
open Go.RowKit Pl Mem Bld AddZ AddL Grp Bat Chk
attribute [local go_sem] Oper.semAt_some

/-- The bucket of the prefix at position i. -/
def bk (L : Nat) (Ps : List Bs) (i : Nat) : Nat := bkt L (Ps.getD i [])
theorem getD_at {Ps : List Bs} {i : Nat} (h : i < Ps.length) : Ps.getD i [] = Ps[i] := by rw [List.getD_eq_getElem?_getD, List.getElem?_eq_getElem h]; rfl
theorem lt_bk {L : Nat} {Ps : List Bs} (hM : Mono L Ps) {i : Nat} (hi : i < Ps.length) (j : Nat) : i < cnt L Ps j ↔ bk L Ps i < j := by
  unfold bk
  rw [getD_at hi]
  exact lt_cnt hM i hi j
theorem bk_mono {L : Nat} {Ps : List Bs} (hM : Mono L Ps) {i k : Nat} (hik : i ≤ k) (hk : k < Ps.length) : bk L Ps i ≤ bk L Ps k := by
  unfold bk
  rw [getD_at hk, getD_at (show i < Ps.length by omega)]
  rcases Nat.lt_or_eq_of_le hik with h | h
  · exact List.pairwise_iff_getElem.1 hM i k (by omega) hk h
  · subst h; exact Nat.le_refl _
theorem bk_lt {L size : Nat} {Ps : List Bs} (hP : ∀ p ∈ Ps, Okp size p) (hL : L ≤ size) {i : Nat} (hi : i < Ps.length) : bk L Ps i < 256 ^ L := by
  unfold bk
  rw [getD_at hi]
  exact bkt_lt (hP _ (List.getElem_mem hi)) hL

theorem Sr.kept {w w' : World} {gx tx bx gb gt gs ub size lead gcap to : Nat} {Ps : List Bs} {M : Nat → Prop} (h : Sr w gx tx bx gb gt gs ub size lead gcap to Ps) (hK : Keeps M w w') (hm : ∀ k, M k → k ≠ gx ∧ k ≠ tx ∧ k ≠ bx ∧ k ≠ gb ∧ k ≠ gt ∧ k ≠ gs) : Sr w' gx tx bx gb gt gs ub size lead gcap to Ps := by
  have hb : ∀ k, k < w.heap.size → (k = gx ∨ k = tx ∨ k = bx ∨ k = gb ∨ k = gt ∨ k = gs) → w'.heap[k]? = w.heap[k]? := fun k hk he => hK.block k hk fun hM => by
    have := hm k hM
    omega
  refine ⟨?_, ?_, ?_, h.gr.same (hb gb h.gr.lt (by omega)), h.tl.same (hb gt h.tl.lt (by omega)), fun hl => (h.st hl).same (hb gs (h.st hl).lt (by omega))⟩
  · exact (World.cell?_of_block (w := w) (hb gx (World.block_lt_of_cell? w _ h.cg) (by omega))).trans h.cg
  · exact (World.cell?_of_block (w := w) (hb tx (World.block_lt_of_cell? w _ h.ct) (by omega))).trans h.ct
  · exact (World.cell?_of_block (w := w) (hb bx (World.block_lt_of_cell? w _ h.cb) (by omega))).trans h.cb

/-- Between two chunks: the next position is i, its bucket at least j. -/
structure L1 (gx fx tx bx gb gt gs ub size L gcap fr to : Nat) (Ps : List Bs) (J : Nat → World → Prop) (i j : Nat) (w : World) : Prop where
  sr : Sr w gx tx bx gb gt gs ub size L gcap to Ps
  fc : Cl w fx 3 [.int .i64 (i : Int)]
  bu : ∃ cs, Cl w ub 5 cs ∧ cs.length = 16384
  jj : J i w
  lo : fr ≤ i
  hi : i ≤ to
  jb : i < to → j ≤ bk L Ps i
  jn : j < 256 ^ L
def fromOf (w : World) (fx : Nat) : Nat := match w.cell? ⟨fx, 0, none⟩ with | some (.int _ x) => x.toNat | _ => 0
theorem L1.from {gx fx tx bx gb gt gs ub size L gcap fr to : Nat} {Ps : List Bs} {J : Nat → World → Prop} {i j : Nat} {w : World} (h : L1 gx fx tx bx gb gt gs ub size L gcap fr to Ps J i j w) : fromOf w fx = i := by
  unfold fromOf
  rw [h.fc.cell 0 (by simp)]
  simp
theorem Sr.cells {w : World} {gx tx bx gb gt gs ub size lead gcap to : Nat} {Ps : List Bs} (h : Sr w gx tx bx gb gt gs ub size lead gcap to Ps) (hl : lead ≠ 0) : w.cell? ⟨gb, 0, none⟩ = some (.int .i64 (size : Int)) ∧ w.cell? ⟨gb, 1, none⟩ = some (.int .i64 (lead : Int)) ∧ w.cell? ⟨gb, 2, none⟩ = some (.slice (some ⟨gs, 0, none⟩) (nb lead) (nb lead)) ∧ w.cell? ⟨gb, 3, none⟩ = some (.slice (some ⟨gt, 0, none⟩) (len size lead Ps) gcap) := by
  have c2 := h.gr.cell 2 (by simp)
  simp only [List.getElem_cons_succ, List.getElem_cons_zero, stv, if_neg hl] at c2
  exact ⟨by simpa using h.gr.cell 0 (by simp), by simpa using h.gr.cell 1 (by simp), c2, by simpa using h.gr.cell 3 (by simp)⟩

theorem bkt_one (p : Bs) (h : 0 < p.length) : bkt 1 p = p[0] := by
  rw [bkt_succ 0 p h]
  simp [stp, bkt]
theorem cut_snoc {Ps : List Bs} {i u : Nat} (hiu : i ≤ u) (hu : u < Ps.length) : (cut Ps i (u + 1)).flatten = (cut Ps i u).flatten ++ Ps[u] := by
  have e : cut Ps i (u + 1) = cut Ps i u ++ [Ps[u]] := by
    unfold cut
    rw [show u + 1 - i = (u - i) + 1 by omega, List.take_add_one, List.getElem?_drop, show i + (u - i) = u by omega, List.getElem?_eq_getElem hu]
    rfl
  rw [e, List.flatten_append]
  simp
/-- The buffer so far, all else as in W3. -/
def Fl (W3 : World) (ub : Nat) (bs : Bs) (w : World) : Prop := (∃ cs, Cl w ub 5 cs ∧ cs.length = 16384 ∧ cs.take bs.length = u8s bs) ∧ Keeps (fun k => k = ub) W3 w
theorem Fl.put {W3 w : World} {ub : Nat} {bs : Bs} (h : Fl W3 ub bs w) (hl : bs.length < 16384) (c : Nat) : Fl W3 ub (bs ++ [c]) (w.setCell ⟨ub, bs.length, none⟩ (Mem.u8 c)) := by
  obtain ⟨⟨cs, h1, h2, h3⟩, hk⟩ := h
  exact ⟨⟨_, h1.set _ _, by simpa using h2, take_set h3 (by omega) c⟩, hk.trans (Keeps.set _ _ _ rfl)⟩
theorem Fl.cell {W3 w : World} {ub : Nat} {bs : Bs} (h : Fl W3 ub bs w) (i : Nat) (hl : i < 16384) : (∃ v, w.cell? ⟨ub, i, none⟩ = some v) ∧ w.frozen? ⟨ub, i, none⟩ = false := by
  obtain ⟨⟨cs, h1, h2, h3⟩, hk⟩ := h
  exact ⟨⟨_, h1.cell _ (by omega)⟩, h1.frozen _⟩
theorem Fl.drawn {W3 w w' : World} {ub : Nat} {bs : Bs} (h : Fl W3 ub bs w) (hd : Drawn w w') : Fl W3 ub bs w' := by
  obtain ⟨⟨cs, h1, h2, h3⟩, hk⟩ := h
  exact ⟨⟨cs, h1.same (by rw [hd.heap]), h2, h3⟩, hk.trans (Keeps.of_drawn hd _)⟩
theorem Fl.start {W3 : World} {ub : Nat} (h : ∃ cs, Cl W3 ub 5 cs ∧ cs.length = 16384) : Fl W3 ub [] W3 := by
  obtain ⟨cs, h1, h2⟩ := h
  exact ⟨⟨cs, h1, h2, rfl⟩, Keeps.refl _ _⟩
theorem Fl.arg {W3 w : World} {ub n : Nat} {bs : Bs} (h : Fl W3 ub bs w) (hn : bs.length = n) (hm : n ≤ 16384) : Arg w (some ⟨ub, 0, none⟩) n 16384 bs := by
  obtain ⟨⟨cs, h1, h2, h3⟩, hk⟩ := h
  exact ⟨hn, hm, by omega, fun e => (by cases e), fun _ => ⟨ub, 0, rfl, h1.rd h3⟩⟩

set_option maxHeartbeats 4000000 in
set_option maxRecDepth 100000 in
theorem chunks_one (l gx fx tx bx gb gt gs ub size gcap fr to : Nat) (Ps : List Bs) (W : World) (J : Nat → World → Prop) (N : Nat → Prop) (h : Sr W gx tx bx gb gt gs ub size 1 gcap to Ps) (hfx : Cl W fx 3 [.int .i64 (fr : Int)]) (hbu : ∃ cs, Cl W ub 5 cs ∧ cs.length = 16384) (hP : ∀ p ∈ Ps, Okp size p) (hM : Mono 1 Ps) (hm : Ps.length ≤ 1048576) (hto : to ≤ Ps.length) (hft : fr < to) (hs1 : 1 < size) (hs : size ≤ 4) (hgc : len size 1 Ps ≤ gcap) (hgm : gcap ≤ 4194304)
    (hap : fx ≠ gx ∧ fx ≠ tx ∧ fx ≠ bx ∧ fx ≠ gb ∧ fx ≠ gt ∧ fx ≠ gs ∧ ub ≠ gx ∧ ub ≠ tx ∧ ub ≠ bx ∧ ub ≠ gb ∧ ub ≠ gt ∧ ub ≠ gs ∧ ub ≠ fx)
    (hN : ∀ k, N k → k ≠ gx ∧ k ≠ tx ∧ k ≠ bx ∧ k ≠ gb ∧ k ≠ gt ∧ k ≠ gs ∧ k ≠ fx ∧ k ≠ ub)
    (hJ : ∀ i W W', J i W → Keeps (fun k => k = ub ∨ k = fx) W W' → J i W') (h0 : J fr W)
    (hY : ∀ i e n c W', fr ≤ i → i ≤ e → e ≤ to → J i W' → Arg W' (some ⟨ub, 0, none⟩) n c (cut Ps i e).flatten → YieldAt Fence.wide 0 Yba.prog l #[.slice (some ⟨ub, 0, none⟩) n c] W' fun x W'' => x = .returned (.bool true) ∧ J e W'' ∧ Keeps N W' W'') :
    Calls Yba.prog 35 #[.func (.yield l) #[] #[], .pointer (some ⟨gx, 0, none⟩), .pointer (some ⟨fx, 0, none⟩), .pointer (some ⟨tx, 0, none⟩), .pointer (some ⟨bx, 0, none⟩)] W fun e W' => e = .returned (.tuple #[]) ∧ J to W' := by
  obtain ⟨c0, c1, c2, c3⟩ := Sr.cells h (by decide)
  have cg := h.cg
  have ct := h.ct
  have cb := h.cb
  have cf := hfx.cell 0 (by simp)
  simp only [List.getElem_cons_zero] at cf
  obtain ⟨nn, hnn⟩ : ∃ nn, size - 1 = nn := ⟨_, rfl⟩
  have hnnI : (size : Int) - 1 = (nn : Int) := by omega
  obtain ⟨lo, hlo⟩ : ∃ lo, len size 1 Ps = lo := ⟨_, rfl⟩
  rw [hlo] at c3 hgc
  have HNN := hid hnn
  have HLO := hid hlo
  clear hnn hlo
  obtain ⟨pr, hpr⟩ : ∃ pr, 16384 / size = pr := ⟨_, rfl⟩
  have hpr1 : 1 ≤ pr ∧ pr ≤ 16384 := by
    have : size = 2 ∨ size = 3 ∨ size = 4 := by omega
    rcases this with rfl | rfl | rfl <;> omega
  have hpr2 : pr * size ≤ 16384 := by rw [← hpr]; exact Nat.div_mul_le_self _ _
  have hprI : Int.tdiv 16384 (size : Int) = (pr : Int) := by rw [← hpr]; rfl
  have HSR := hid h
  have HFX := hid hfx
  have HBU := hid hbu
  have HPR2 := hid hpr2
  have HPP := hid hP
  have HMM := hid hM
  have HAP := hid hap
  have HN := hid hN
  have HJ := hid hJ
  have HJ0 := hid h0
  have HY := hid hY
  clear h hfx hbu hpr hpr2 hP hM hap hN hJ h0 hY
  go_enter Yba.func35, Yba.ntmps35
  go_wp2_with fail
  go_region
  go_wp2_with fail
  go_quiet (fail)
  go_wp2_with fail
  have hdr : Drawn W (W.drewN (1 + nq)) := ⟨1 + nq, rfl⟩
  generalize W.drewN (1 + nq) = w1 at *
  have hsr1 := Sr.kept HSR.out (Keeps.of_drawn hdr fun _ => False) (fun _ h => h.elim)
  have hfl : fr < Ps.length := by omega
  refine (bucketAt_any gb gs size 1 fr Ps w1 (Sr.cells hsr1 (by decide)).2.2.1 (hsr1.st (by decide)) HPP.out HMM.out (by omega) (by decide) hfl hm).mono ?_
  rintro e w2 ⟨rfl, hb2⟩
  have hk2 : Keeps (fun _ => False) W w2 := (Keeps.of_drawn hdr _).trans (Keeps.of_below hb2 _)
  have hl1 : L1 gx fx tx bx gb gt gs ub size 1 gcap fr to Ps J fr (bk 1 Ps fr) w2 := by
    refine ⟨Sr.kept HSR.out hk2 (fun _ h => h.elim), hk2.cl HFX.out (fun h => h), ?_, HJ.out _ _ _ HJ0.out (hk2.mono fun _ _ h => h.elim), Nat.le_refl _, by omega, fun _ => Nat.le_refl _, bk_lt HPP.out (by omega) hfl⟩
    obtain ⟨cs, h1, h2⟩ := HBU.out
    exact ⟨cs, hk2.cl h1 (fun h => h), h2⟩
  have HL1 := hid hl1
  have hbk : bkt 1 Ps[fr] = bk 1 Ps fr := by unfold bk; rw [getD_at hfl]
  rw [hbk]
  clear hl1 hk2 hb2 hsr1 hdr HSR HFX HBU HJ0 c0 c1 c2 c3 cg ct cb cf hbk
  go_wp2_with fail
  go_loopw [8] (fun jv wr => ∃ i j : Nat, jv = .int .i64 (j : Int) ∧ L1 gx fx tx bx gb gt gs ub size 1 gcap fr to Ps J i j wr) (fun _ wr => to - fromOf wr fx)
  case atStart => exact ⟨fr, _, rfl, HL1.out⟩
  case round =>
    obtain ⟨i, j, rfl, hl1⟩ := hrel
    obtain ⟨c0, c1, c2, c3⟩ := Sr.cells hl1.sr (by decide)
    rw [HLO.out] at c3
    have cg := hl1.sr.cg
    have ct := hl1.sr.ct
    have cb := hl1.sr.cb
    have cf := hl1.fc.cell 0 (by simp)
    have ff := hl1.fc.frozen 0
    simp only [List.getElem_cons_zero] at cf
    have hito := hl1.hi
    have hfri := hl1.lo
    by_cases hit : i < to
    · obtain ⟨e, he⟩ : ∃ e, (if i + pr ≤ to then i + pr else to) = e := ⟨_, rfl⟩
      have he1 : i < e ∧ e ≤ to ∧ e - i ≤ pr := by split at he <;> omega
      have hmin : (if (to : Int) < (i : Int) + (pr : Int) then (to : Int) else (i : Int) + (pr : Int)) = (e : Int) := by split at he <;> split <;> omega
      obtain ⟨sz, hsz⟩ : ∃ sz, (e - i) * size = sz := ⟨_, rfl⟩
      have hsz1 : sz ≤ 16384 := by rw [← hsz]; exact Nat.le_trans (Nat.mul_le_mul_right _ he1.2.2) HPR2.out
      have hszI : ((e : Int) - (i : Int)) * (size : Int) = (sz : Int) := by
        rw [← hsz, Int.natCast_mul]
        congr 1
        omega
      have HL := hid hl1
      have HE := hid he
      have HSZ := hid hsz
      have hgrow := fun w => grow_none ⟨ub, 0, none⟩ 0 16384 sz w (by omega) (by decide)
      clear hl1 he hsz
      go_wp2_with fail
      go_quiet ((go_at_call 22; exact Calls.quiet_of_same (hgrow _)))
      have hdr : Drawn wr (wr.drewN nq) := ⟨nq, rfl⟩
      have cf' : (wr.drewN nq).cell? ⟨fx, 0, none⟩ = some (.int .i64 (i : Int)) := cf
      generalize wr.drewN nq = W3 at *
      have hk3 := Keeps.of_drawn hdr (fun _ => False)
      have hsr3 := Sr.kept HL.out.sr hk3 (fun _ h => h.elim)
      have hfc3 := hk3.cl HL.out.fc (fun h => h)
      have hjj3 := HJ.out _ _ _ HL.out.jj (hk3.mono fun _ _ h => h.elim)
      have hfl0 : Fl W3 ub (cut Ps i i).flatten W3 := by
        have : cut Ps i i = [] := by unfold cut; rw [Nat.sub_self]; rfl
        rw [this]
        obtain ⟨cs, h1, h2⟩ := HL.out.bu
        exact Fl.start ⟨cs, hk3.cl h1 (fun h => h), h2⟩
      have HSR3 := hid hsr3
      have HFC3 := hid hfc3
      have HJJ3 := hid hjj3
      have HFL0 := hid hfl0
      clear hsr3 hfc3 hjj3 hfl0 hk3 hdr c0 c1 c2 c3 cg ct cb cf ff
      go_wp2_with fail
      clear cf'
      go_loopw [8, 11] (fun jv iv wr' => ∃ t j' : Nat, i ≤ t ∧ t ≤ e ∧ iv = .int .i64 (t : Int) ∧ jv = .int .i64 (j' : Int) ∧ (t < to → j' ≤ bk 1 Ps t) ∧ j' < 256 ^ 1 ∧ Fl W3 ub (cut Ps i t).flatten wr') (fun _ iv _ => e - (intOf iv).toNat)
      case atStart => exact ⟨i, j, Nat.le_refl _, by omega, rfl, rfl, HL.out.jb, HL.out.jn, HFL0.out⟩
      case round =>
        obtain ⟨t, j', hit', hte, rfl, rfl, hjb, hjn, hfl⟩ := hrel
        have hsr : Sr wr gx tx bx gb gt gs ub size 1 gcap to Ps := Sr.kept HSR3.out hfl.2 (fun k e => by have := HAP.out; omega)
        obtain ⟨c0, c1, c2, c3⟩ := Sr.cells hsr (by decide)
        rw [HLO.out] at c3
        have cg := hsr.cg
        by_cases hte' : t < e
        · have htP : t < Ps.length := by omega
          have hbt : bk 1 Ps t < 256 ^ 1 := bk_lt HPP.out (by omega) htP
          have hjb' : j' ≤ bk 1 Ps t := hjb (by omega)
          have hst := hsr.st (by decide)
          have HST := hid hst
          have HSRR := hid hsr
          have HFL := hid hfl
          have HBT := hid hbt
          have HJB := hid hjb'
          have hn1 : nb 1 = 257 := by decide
          rw [hn1] at c2 HST
          clear hst hsr hfl hbt hjb hjn hjb' hn1
          go_wp2_with fail
          go_loopw [8] (fun jv wr' => ∃ j2 : Nat, jv = .int .i64 (j2 : Int) ∧ j2 ≤ bk 1 Ps t ∧ wr = wr') (fun jv _ => 256 - (intOf jv).toNat)
          case atStart => exact ⟨j', rfl, HJB.out, rfl⟩
          case round =>
            obtain ⟨j2, rfl, hj2, rfl⟩ := hrel
            have hj2n : j2 < 256 := Nat.lt_of_le_of_lt hj2 HBT.out
            have cs1 := HST.out.cell (j2 + 1) (by rw [u32s_len]; omega)
            rw [u32s_at] at cs1
            obtain ⟨cv, hcv⟩ : ∃ cv, cnt 1 Ps (j2 + 1) = cv := ⟨_, rfl⟩
            rw [hcv] at cs1
            have cs1' : wr.cell? ⟨gs, j2 + 1, none⟩ = some (.int .u32 (cv : Int)) := cs1
            have hcvm : cv ≤ 1048576 := by rw [← hcv]; exact Nat.le_trans (cnt_le _ _ _) hm
            have hiff := lt_bk HMM.out htP (j2 + 1)
            rw [hcv] at hiff
            have HIFF := hid hiff
            have HCV := hid hcv
            have hj2I : (j2 : Int) + 1 < 257 := by omega
            clear cs1 hiff hcv
            by_cases hct : cv ≤ t
            · have hctI : (cv : Int) ≤ (t : Int) := by omega
              have hj3 : j2 + 1 ≤ bk 1 Ps t := by
                have := HIFF.out
                omega
              have HJ3 := hid hj3
              clear hj3
              go_wp2
              go_roundw
              case rel => exact ⟨j2 + 1, by go_num, HJ3.out, trivial⟩
              case measure => simp [intOf]; omega
            · have hctI : (t : Int) < (cv : Int) := by omega
              have hj3 : j2 = bk 1 Ps t := by
                have := HIFF.out
                omega
              have HJ3 := hid hj3
              clear hj3
              obtain ⟨sp, hsp⟩ : ∃ sp, (if cv < e then cv else e) = sp := ⟨_, rfl⟩
              have hsp1 : t < sp ∧ sp ≤ e ∧ sp ≤ cv := by split at hsp <;> omega
              have hminS : (if cv < e then (cv : Int) else (e : Int)) = (sp : Int) := by rw [← hsp]; by_cases hh : cv < e <;> simp [hh]
              clear hsp
              go_wp2_with fail
              go_loopw [11] (fun iv wr' => ∃ u : Nat, t ≤ u ∧ u ≤ sp ∧ iv = .int .i64 (u : Int) ∧ Fl W3 ub (cut Ps i u).flatten wr') (fun iv _ => sp - (intOf iv).toNat)
              case atStart => exact ⟨t, Nat.le_refl _, by omega, rfl, HFL.out⟩
              case round =>
                obtain ⟨u, htu, hus, rfl, hflu⟩ := hrel
                by_cases hus' : u < sp
                · have huP : u < Ps.length := by omega
                  have hbu : bk 1 Ps u = j2 := by
                    have h1 := (lt_bk HMM.out huP (j2 + 1)).1 (by rw [HCV.out]; omega)
                    have h2 := bk_mono HMM.out htu huP
                    have h3 := HJ3.out
                    omega
                  obtain ⟨p, hp⟩ : ∃ p, Ps[u] = p := ⟨_, rfl⟩
                  have hpo : Okp size p := by rw [← hp]; exact HPP.out _ (List.getElem_mem huP)
                  have hp0 : p.take 1 = [j2] := by
                    have h1 : p[0]'(by rw [hpo.1]; omega) = j2 := by
                      rw [← bkt_one p (by rw [hpo.1]; omega), ← hp, ← hbu]
                      unfold bk
                      rw [getD_at huP]
                    rw [List.take_add_one, List.getElem?_eq_getElem (by rw [hpo.1]; omega), h1]
                    rfl
                  obtain ⟨o, ho⟩ : ∃ o, (u - i) * size = o := ⟨_, rfl⟩
                  have hoI : ((u : Int) - (i : Int)) * (size : Int) = (o : Int) := by
                    rw [← ho, Int.natCast_mul]
                    congr 1
                    omega
                  have hosz : o + size ≤ sz := by
                    have h1 : (u - i + 1) * size ≤ (e - i) * size := Nat.mul_le_mul_right _ (by omega)
                    rw [HSZ.out, Nat.add_mul, ho] at h1
                    omega
                  have hlen : (cut Ps i u).flatten.length = o := by rw [flat_len (cut_ok HPP.out i u), cut_len Ps i u (by omega) (by omega), ho]
                  have hsru : Sr wr gx tx bx gb gt gs ub size 1 gcap to Ps := Sr.kept HSR3.out hflu.2 (fun k e => by have := HAP.out; omega)
                  have hfcu : Cl wr fx 3 [.int .i64 (i : Int)] := hflu.2.cl HFC3.out (by have := HAP.out; omega)
                  obtain ⟨e0, e1, e2, e3⟩ := Sr.cells hsru (by decide)
                  rw [HLO.out] at e3
                  have eg := hsru.cg
                  have ef := hfcu.cell 0 (by simp)
                  simp only [List.getElem_cons_zero] at ef
                  have HFLU := hid hflu
                  have HSRU := hid hsru
                  have HLEN := hid hlen
                  have HPO := hid hpo
                  have HP0 := hid hp0
                  have HPU := hid hp
                  have HOO := hid ho
                  clear hflu hsru hfcu hlen hpo hp0 hp ho hbu c0 c1 c2 c3 cg cs1'
                  go_wp2_with fail
                  go_quiet (fail)
                  have hdA : Drawn wr (wr.drewN nq) := ⟨nq, rfl⟩
                  generalize wr.drewN nq = WA at *
                  have a0 := (Drawn.cell hdA _).trans e0
                  have ag := (Drawn.cell hdA _).trans eg
                  go_wp2_with fail
                  go_quiet (fail)
                  have hdB : Drawn wr (WA.drewN nq) := Drawn.trans hdA ⟨nq, rfl⟩
                  generalize WA.drewN nq = WB at *
                  have hflB := Fl.drawn HFLU.out hdB
                  have hsrB := Sr.kept HSRU.out (Keeps.of_drawn hdB fun _ => False) (fun _ h => h.elim)
                  obtain ⟨b0, b1, b2, b3⟩ := Sr.cells hsrB (by decide)
                  rw [HLO.out] at b3
                  have bg := hsrB.cg
                  obtain ⟨⟨uv, hcu⟩, hfu⟩ := Fl.cell hflB o (by omega)
                  have hput := Fl.put hflB (by rw [HLEN.out]; omega) j2
                  rw [HLEN.out, ← HP0.out] at hput
                  unfold Mem.u8 at hput
                  have hap := HAP.out
                  have n1 : ub ≠ gx := by omega
                  have n2 : ub ≠ gb := by omega
                  have n3 : gx ≠ ub := by omega
                  have n4 : gb ≠ ub := by omega
                  have hw8 : (j2 : Int) % 256 = (j2 : Int) := by omega
                  obtain ⟨un, hun⟩ : ∃ un, u * nn = un := ⟨_, rfl⟩
                  have hunI : (u : Int) * (nn : Int) = (un : Int) := by rw [← hun, Int.natCast_mul]
                  have hun2I : ((u : Int) + 1) * (nn : Int) = (un : Int) + (nn : Int) := by rw [Int.add_mul, hunI, Int.one_mul]
                  have hunl : un + nn ≤ lo := by
                    have h1 : (u + 1) * nn ≤ Ps.length * nn := Nat.mul_le_mul_right _ huP
                    have h2 : Ps.length * nn = lo := by rw [← HLO.out, ← HNN.out]; rfl
                    rw [h2, Nat.add_mul, hun] at h1
                    omega
                  have hnnp : 0 < nn := by have := HNN.out; omega
                  have HPUT := hid hput
                  have HUN := hid hun
                  have HAP2 := hid hap
                  clear hflB hsrB hput hap hdA hdB a0 ag e0 e1 e2 e3 eg ef hun
                  go_wp2_with fail
                  clear b0 b1 b2 b3 bg hcu hfu n1 n2 n3 n4
                  generalize WB.setCell ⟨ub, o, none⟩ (.int .u8 (j2 : Int)) = WC at *
                  go_loopw [15, 16, 186] (fun _ _ kv wr' => ∃ k : Nat, k ≤ nn ∧ kv = .int .i64 (k : Int) ∧ Fl W3 ub ((cut Ps i u).flatten ++ p.take (1 + k)) wr') (fun _ _ kv _ => nn - (intOf kv).toNat)
                  case atStart => exact ⟨0, Nat.zero_le _, rfl, HPUT.out⟩
                  case round =>
                    obtain ⟨k, hk, rfl, hflk⟩ := hrel
                    have hsrk : Sr wr gx tx bx gb gt gs ub size 1 gcap to Ps := Sr.kept HSR3.out hflk.2 (fun k e => by have := HAP2.out; omega)
                    obtain ⟨b0, b1, b2, b3⟩ := Sr.cells hsrk (by decide)
                    have bg := hsrk.cg
                    by_cases hkn : k < nn
                    · have hkp : 1 + k < p.length := by rw [HPO.out.1]; have := HNN.out; omega
                      have htk := hsrk.tl.rd
                      have hta := tls_at HPP.out hs1 u huP k (by rw [HNN.out]; exact hkn)
                      rw [HNN.out, HUN.out, HPU.out, List.getElem?_eq_getElem hkp] at hta
                      obtain ⟨hlt, hta2⟩ := List.getElem?_eq_some_iff.1 hta
                      have hcell := htk (un + k) hlt
                      rw [hta2, Nat.zero_add] at hcell
                      obtain ⟨ch, hch⟩ : ∃ ch, p[1 + k] = ch := ⟨_, rfl⟩
                      rw [hch] at hcell
                      have hcell2 : wr.cell? ⟨gt, un + k, none⟩ = some (.int .u8 (ch : Int)) := hcell
                      have hlk : ((cut Ps i u).flatten ++ p.take (1 + k)).length = o + (1 + k) := by rw [List.length_append, HLEN.out, List.length_take, Nat.min_eq_left (by omega)]
                      have hput := Fl.put hflk (by rw [hlk]; have := HNN.out; omega) ch
                      rw [hlk, List.append_assoc] at hput
                      have hext : p.take (1 + k) ++ [ch] = p.take (1 + (k + 1)) := by
                        rw [show 1 + (k + 1) = (1 + k) + 1 by omega, List.take_add_one, List.getElem?_eq_getElem hkp, hch]
                        rfl
                      rw [hext] at hput
                      unfold Mem.u8 at hput
                      obtain ⟨⟨kv, hkc⟩, hkf⟩ := Fl.cell hflk (o + (1 + k)) (by have := HNN.out; omega)
                      have HPUT2 := hid hput
                      have hk1 : (1 : Int) + (k : Int) < (size : Int) := by have := HNN.out; omega
                      have hknI : (k : Int) < (nn : Int) := by omega
                      clear hflk hsrk hput hext hlk htk hta hta2 hcell hch
                      go_wp2
                      exact ⟨⟨k + 1, by omega, by go_num, HPUT2.out⟩, by simp [intOf]; omega⟩
                    · obtain rfl : k = nn := by omega
                      have hpt : p.take (1 + k) = p := List.take_of_length_le (by rw [HPO.out.1]; have := HNN.out; omega)
                      have hfin : Fl W3 ub (cut Ps i (u + 1)).flatten wr := by
                        rw [cut_snoc (by omega) huP, HPU.out]
                        rw [hpt] at hflk
                        exact hflk
                      have HFIN := hid hfin
                      clear hflk hsrk hfin hpt
                      go_wp2
                      exact ⟨⟨u + 1, by omega, by omega, by go_num, HFIN.out⟩, by simp [intOf]; omega⟩
                · obtain rfl : u = sp := by omega
                  have hjs : u < to → j2 ≤ bk 1 Ps u := fun h => by
                    have := bk_mono HMM.out htu (show u < Ps.length by omega)
                    have := HJ3.out
                    omega
                  have HJS := hid hjs
                  have HFLU := hid hflu
                  clear hjs hflu
                  go_wp2
                  exact ⟨⟨u, j2, by omega, by omega, rfl, rfl, HJS.out, hj2n, HFLU.out⟩, by simp [intOf]; omega⟩
        · obtain rfl : t = e := by omega
          have hjw : J i wr := HJ.out i W3 wr HJJ3.out (hfl.2.mono fun _ _ e => .inl e)
          have harg := Fl.arg hfl (n := sz) (by rw [flat_len (cut_ok HPP.out i t), cut_len Ps i t (by omega) (by omega), HSZ.out]) hsz1
          obtain ⟨fn, tmps, assign, body, hy, hR⟩ := HY.out i t sz 16384 wr hfri (by omega) he1.2.1 hjw harg
          have hfcw : Cl wr fx 3 [.int .i64 (i : Int)] := hfl.2.cl HFC3.out (by have := HAP.out; omega)
          have hfinal : ∀ W2, J t W2 → Keeps N wr W2 → W2.cell? ⟨fx, 0, none⟩ = some (.int .i64 (i : Int)) ∧ W2.frozen? ⟨fx, 0, none⟩ = false ∧ L1 gx fx tx bx gb gt gs ub size 1 gcap fr to Ps J t j' (W2.setCell ⟨fx, 0, none⟩ (.int .i64 (t : Int))) := fun W2 hJ2 hkN => by
            have hfc2 := hkN.cl hfcw (fun hn => (HN.out fx hn).2.2.2.2.2.2.1 rfl)
            have hk3 : Keeps (fun k => k = fx) W2 (W2.setCell ⟨fx, 0, none⟩ (.int .i64 (t : Int))) := Keeps.set _ _ _ rfl
            obtain ⟨⟨cs, h1, h2, _⟩, _⟩ := hfl
            refine ⟨by simpa using hfc2.cell 0 (by simp), hfc2.frozen 0, ⟨Sr.kept (Sr.kept hsr hkN (fun k hn => by have := HN.out k hn; omega)) hk3 (fun k e => by have := HAP.out; omega), by simpa using hfc2.set 0 (.int .i64 (t : Int)), ⟨cs, hk3.cl (hkN.cl h1 (fun hn => (HN.out ub hn).2.2.2.2.2.2.2 rfl)) (by have := HAP.out; omega), h2⟩, HJ.out t W2 _ hJ2 (hk3.mono fun _ _ e => .inr e), by omega, he1.2.1, hjb, hjn⟩⟩
          have HFINAL := hid hfinal
          have hfrom : fromOf wr fx = i := by
            unfold fromOf
            rw [hfcw.cell 0 (by simp)]
            simp
          have HFROM := hid hfrom
          clear hfinal hfl hsr hjw harg hfcw hjb hjn c0 c1 c2 c3 cg hfrom
          go_upto_region 28 with fail
          refine (wpIn_wide (n := 1)).1 ?_
          gi_wp2
          refine hR.mono ?_
          rintro e2 W2 ⟨rfl, hJ2, hkN⟩
          obtain ⟨g1, g2, hl2⟩ := HFINAL.out W2 hJ2 hkN
          have HL2 := hid hl2
          clear hJ2 hkN hl2
          gi_wp2
          go_wp2
          exact ⟨⟨t, j', rfl, HL2.out⟩, by rw [L1.from HL2.out, L1.from HL.out]; omega⟩
    · obtain rfl : i = to := by omega
      have HJT := hid hl1.jj
      clear hl1
      go_wp2
      go_end0
      exact ⟨rfl, HJT.out⟩
end Go.Proofs.Ybulkehgw.Chl
