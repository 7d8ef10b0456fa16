/-
  chunks$1 (f35) at a group that leaves two bytes out.
-/
import Derived.Test.YbulkehgwChl
namespace Go.Proofs.Ybulkehgw.Chm
open Go.RowKit Pl Mem Bld AddZ AddL Grp Bat Chk Chl
attribute [local go_sem] Oper.semAt_some

set_option maxHeartbeats 4000000 in
set_option maxRecDepth 100000 in
theorem chunks_two (l gx fx tx bx gb gt gs ub size gcap fr to : Nat) (Ps : List Bs) (W : World) (J : Nat → World → Prop) (N : Nat → Prop) (h : Sr W gx tx bx gb gt gs ub size 2 gcap to Ps) (hfx : Cl W fx 3 [.int .i64 (fr : Int)]) (hbu : ∃ cs, Cl W ub 5 cs ∧ cs.length = 16384) (hP : ∀ p ∈ Ps, Okp size p) (hM : Mono 2 Ps) (hm : Ps.length ≤ 1048576) (hto : to ≤ Ps.length) (hft : fr < to) (hs1 : 2 < size) (hs : size ≤ 4) (hgc : len size 2 Ps ≤ gcap) (hgm : gcap ≤ 4194304)
    (hap : fx ≠ gx ∧ fx ≠ tx ∧ fx ≠ bx ∧ fx ≠ gb ∧ fx ≠ gt ∧ fx ≠ gs ∧ ub ≠ gx ∧ ub ≠ tx ∧ ub ≠ bx ∧ ub ≠ gb ∧ ub ≠ gt ∧ ub ≠ gs ∧ ub ≠ fx)
    (hN : ∀ k, N k → k ≠ gx ∧ k ≠ tx ∧ k ≠ bx ∧ k ≠ gb ∧ k ≠ gt ∧ k ≠ gs ∧ k ≠ fx ∧ k ≠ ub)
    (hJ : ∀ i W W', J i W → Keeps (fun k => k = ub ∨ k = fx) W W' → J i W') (h0 : J fr W)
    (hY : ∀ i e n c W', fr ≤ i → i ≤ e → e ≤ to → J i W' → Arg W' (some ⟨ub, 0, none⟩) n c (cut Ps i e).flatten → YieldAt Fence.wide 0 Yba.prog l #[.slice (some ⟨ub, 0, none⟩) n c] W' fun x W'' => x = .returned (.bool true) ∧ J e W'' ∧ Keeps N W' W'') :
    Calls Yba.prog 35 #[.func (.yield l) #[] #[], .pointer (some ⟨gx, 0, none⟩), .pointer (some ⟨fx, 0, none⟩), .pointer (some ⟨tx, 0, none⟩), .pointer (some ⟨bx, 0, none⟩)] W fun e W' => e = .returned (.tuple #[]) ∧ J to W' := by
  obtain ⟨c0, c1, c2, c3⟩ := Sr.cells h (by decide)
  have cg := h.cg
  have ct := h.ct
  have cb := h.cb
  have cf := hfx.cell 0 (by simp)
  simp only [List.getElem_cons_zero] at cf
  obtain ⟨nn, hnn⟩ : ∃ nn, size - 2 = nn := ⟨_, rfl⟩
  have hnnI : (size : Int) - 2 = (nn : Int) := by omega
  obtain ⟨lo, hlo⟩ : ∃ lo, len size 2 Ps = lo := ⟨_, rfl⟩
  rw [hlo] at c3 hgc
  have HNN := hid hnn
  have HLO := hid hlo
  clear hnn hlo
  obtain ⟨pr, hpr⟩ : ∃ pr, 16384 / size = pr := ⟨_, rfl⟩
  have hpr1 : 1 ≤ pr ∧ pr ≤ 16384 := by
    have : size = 2 ∨ size = 3 ∨ size = 4 := by omega
    rcases this with rfl | rfl | rfl <;> omega
  have hpr2 : pr * size ≤ 16384 := by rw [← hpr]; exact Nat.div_mul_le_self _ _
  have hprI : Int.tdiv 16384 (size : Int) = (pr : Int) := by rw [← hpr]; rfl
  have HSR := hid h
  have HFX := hid hfx
  have HBU := hid hbu
  have HPR2 := hid hpr2
  have HPP := hid hP
  have HMM := hid hM
  have HAP := hid hap
  have HN := hid hN
  have HJ := hid hJ
  have HJ0 := hid h0
  have HY := hid hY
  clear h hfx hbu hpr hpr2 hP hM hap hN hJ h0 hY
  go_enter Yba.func35, Yba.ntmps35
  go_wp2_with fail
  go_region
  go_wp2_with fail
  go_quiet (fail)
  go_wp2_with fail
  have hdr : Drawn W (W.drewN (1 + nq)) := ⟨1 + nq, rfl⟩
  generalize W.drewN (1 + nq) = w1 at *
  have hsr1 := Sr.kept HSR.out (Keeps.of_drawn hdr fun _ => False) (fun _ h => h.elim)
  have hfl : fr < Ps.length := by omega
  refine (bucketAt_any gb gs size 2 fr Ps w1 (Sr.cells hsr1 (by decide)).2.2.1 (hsr1.st (by decide)) HPP.out HMM.out (by omega) (by decide) hfl hm).mono ?_
  rintro e w2 ⟨rfl, hb2⟩
  have hk2 : Keeps (fun _ => False) W w2 := (Keeps.of_drawn hdr _).trans (Keeps.of_below hb2 _)
  have hl1 : L1 gx fx tx bx gb gt gs ub size 2 gcap fr to Ps J fr (bk 2 Ps fr) w2 := by
    refine ⟨Sr.kept HSR.out hk2 (fun _ h => h.elim), hk2.cl HFX.out (fun h => h), ?_, HJ.out _ _ _ HJ0.out (hk2.mono fun _ _ h => h.elim), Nat.le_refl _, by omega, fun _ => Nat.le_refl _, bk_lt HPP.out (by omega) hfl⟩
    obtain ⟨cs, h1, h2⟩ := HBU.out
    exact ⟨cs, hk2.cl h1 (fun h => h), h2⟩
  have HL1 := hid hl1
  have hbk : bkt 2 Ps[fr] = bk 2 Ps fr := by unfold bk; rw [getD_at hfl]
  rw [hbk]
  clear hl1 hk2 hb2 hsr1 hdr HSR HFX HBU HJ0 c0 c1 c2 c3 cg ct cb cf hbk
  go_wp2_with fail
  go_loopw [8] (fun jv wr => ∃ i j : Nat, jv = .int .i64 (j : Int) ∧ L1 gx fx tx bx gb gt gs ub size 2 gcap fr to Ps J i j wr) (fun _ wr => to - fromOf wr fx)
  case atStart => exact ⟨fr, _, rfl, HL1.out⟩
  case round =>
    obtain ⟨i, j, rfl, hl1⟩ := hrel
    obtain ⟨c0, c1, c2, c3⟩ := Sr.cells hl1.sr (by decide)
    rw [HLO.out] at c3
    have cg := hl1.sr.cg
    have ct := hl1.sr.ct
    have cb := hl1.sr.cb
    have cf := hl1.fc.cell 0 (by simp)
    have ff := hl1.fc.frozen 0
    simp only [List.getElem_cons_zero] at cf
    have hito := hl1.hi
    have hfri := hl1.lo
    by_cases hit : i < to
    · obtain ⟨e, he⟩ : ∃ e, (if i + pr ≤ to then i + pr else to) = e := ⟨_, rfl⟩
      have he1 : i < e ∧ e ≤ to ∧ e - i ≤ pr := by split at he <;> omega
      have hmin : (if (to : Int) < (i : Int) + (pr : Int) then (to : Int) else (i : Int) + (pr : Int)) = (e : Int) := by split at he <;> split <;> omega
      obtain ⟨sz, hsz⟩ : ∃ sz, (e - i) * size = sz := ⟨_, rfl⟩
      have hsz1 : sz ≤ 16384 := by rw [← hsz]; exact Nat.le_trans (Nat.mul_le_mul_right _ he1.2.2) HPR2.out
      have hszI : ((e : Int) - (i : Int)) * (size : Int) = (sz : Int) := by
        rw [← hsz, Int.natCast_mul]
        congr 1
        omega
      have HL := hid hl1
      have HE := hid he
      have HSZ := hid hsz
      have hgrow := fun w => grow_none ⟨ub, 0, none⟩ 0 16384 sz w (by omega) (by decide)
      clear hl1 he hsz
      go_wp2_with fail
      go_quiet ((go_at_call 22; exact Calls.quiet_of_same (hgrow _)))
      have hdr : Drawn wr (wr.drewN nq) := ⟨nq, rfl⟩
      have cf' : (wr.drewN nq).cell? ⟨fx, 0, none⟩ = some (.int .i64 (i : Int)) := cf
      generalize wr.drewN nq = W3 at *
      have hk3 := Keeps.of_drawn hdr (fun _ => False)
      have hsr3 := Sr.kept HL.out.sr hk3 (fun _ h => h.elim)
      have hfc3 := hk3.cl HL.out.fc (fun h => h)
      have hjj3 := HJ.out _ _ _ HL.out.jj (hk3.mono fun _ _ h => h.elim)
      have hfl0 : Fl W3 ub (cut Ps i i).flatten W3 := by
        have : cut Ps i i = [] := by unfold cut; rw [Nat.sub_self]; rfl
        rw [this]
        obtain ⟨cs, h1, h2⟩ := HL.out.bu
        exact Fl.start ⟨cs, hk3.cl h1 (fun h => h), h2⟩
      have HSR3 := hid hsr3
      have HFC3 := hid hfc3
      have HJJ3 := hid hjj3
      have HFL0 := hid hfl0
      clear hsr3 hfc3 hjj3 hfl0 hk3 hdr c0 c1 c2 c3 cg ct cb cf ff
      go_wp2_with fail
      clear cf'
      go_loopw [8, 11] (fun jv iv wr' => ∃ t j' : Nat, i ≤ t ∧ t ≤ e ∧ iv = .int .i64 (t : Int) ∧ jv = .int .i64 (j' : Int) ∧ (t < to → j' ≤ bk 2 Ps t) ∧ j' < 256 ^ 2 ∧ Fl W3 ub (cut Ps i t).flatten wr') (fun _ iv _ => e - (intOf iv).toNat)
      case atStart => exact ⟨i, j, Nat.le_refl _, by omega, rfl, rfl, HL.out.jb, HL.out.jn, HFL0.out⟩
      case round =>
        obtain ⟨t, j', hit', hte, rfl, rfl, hjb, hjn, hfl⟩ := hrel
        have hsr : Sr wr gx tx bx gb gt gs ub size 2 gcap to Ps := Sr.kept HSR3.out hfl.2 (fun k e => by have := HAP.out; omega)
        obtain ⟨c0, c1, c2, c3⟩ := Sr.cells hsr (by decide)
        rw [HLO.out] at c3
        have cg := hsr.cg
        by_cases hte' : t < e
        · have htP : t < Ps.length := by omega
          have hbt : bk 2 Ps t < 256 ^ 2 := bk_lt HPP.out (by omega) htP
          have hjb' : j' ≤ bk 2 Ps t := hjb (by omega)
          have hst := hsr.st (by decide)
          have HST := hid hst
          have HSRR := hid hsr
          have HFL := hid hfl
          have HBT := hid hbt
          have HJB := hid hjb'
          have hn1 : nb 2 = 65537 := by decide
          rw [hn1] at c2 HST
          clear hst hsr hfl hbt hjb hjn hjb' hn1
          go_wp2_with fail
          go_loopw [8] (fun jv wr' => ∃ j2 : Nat, jv = .int .i64 (j2 : Int) ∧ j2 ≤ bk 2 Ps t ∧ wr = wr') (fun jv _ => 65536 - (intOf jv).toNat)
          case atStart => exact ⟨j', rfl, HJB.out, rfl⟩
          case round =>
            obtain ⟨j2, rfl, hj2, rfl⟩ := hrel
            have hj2n : j2 < 65536 := Nat.lt_of_le_of_lt hj2 HBT.out
            have cs1 := HST.out.cell (j2 + 1) (by rw [u32s_len]; omega)
            rw [u32s_at] at cs1
            obtain ⟨cv, hcv⟩ : ∃ cv, cnt 2 Ps (j2 + 1) = cv := ⟨_, rfl⟩
            rw [hcv] at cs1
            have cs1' : wr.cell? ⟨gs, j2 + 1, none⟩ = some (.int .u32 (cv : Int)) := cs1
            have hcvm : cv ≤ 1048576 := by rw [← hcv]; exact Nat.le_trans (cnt_le _ _ _) hm
            have hiff := lt_bk HMM.out htP (j2 + 1)
            rw [hcv] at hiff
            have HIFF := hid hiff
            have HCV := hid hcv
            have hj2I : (j2 : Int) + 1 < 65537 := by omega
            clear cs1 hiff hcv
            by_cases hct : cv ≤ t
            · have hctI : (cv : Int) ≤ (t : Int) := by omega
              have hj3 : j2 + 1 ≤ bk 2 Ps t := by
                have := HIFF.out
                omega
              have HJ3 := hid hj3
              clear hj3
              go_wp2
              go_roundw
              case rel => exact ⟨j2 + 1, by go_num, HJ3.out, trivial⟩
              case measure => simp [intOf]; omega
            · have hctI : (t : Int) < (cv : Int) := by omega
              have hj3 : j2 = bk 2 Ps t := by
                have := HIFF.out
                omega
              have HJ3 := hid hj3
              clear hj3
              obtain ⟨sp, hsp⟩ : ∃ sp, (if cv < e then cv else e) = sp := ⟨_, rfl⟩
              have hsp1 : t < sp ∧ sp ≤ e ∧ sp ≤ cv := by split at hsp <;> omega
              have hminS : (if cv < e then (cv : Int) else (e : Int)) = (sp : Int) := by rw [← hsp]; by_cases hh : cv < e <;> simp [hh]
              clear hsp
              go_wp2_with fail
              go_loopw [11] (fun iv wr' => ∃ u : Nat, t ≤ u ∧ u ≤ sp ∧ iv = .int .i64 (u : Int) ∧ Fl W3 ub (cut Ps i u).flatten wr') (fun iv _ => sp - (intOf iv).toNat)
              case atStart => exact ⟨t, Nat.le_refl _, by omega, rfl, HFL.out⟩
              case round =>
                obtain ⟨u, htu, hus, rfl, hflu⟩ := hrel
                by_cases hus' : u < sp
                · have huP : u < Ps.length := by omega
                  have hbu : bk 2 Ps u = j2 := by
                    have h1 := (lt_bk HMM.out huP (j2 + 1)).1 (by rw [HCV.out]; omega)
                    have h2 := bk_mono HMM.out htu huP
                    have h3 := HJ3.out
                    omega
                  obtain ⟨p, hp⟩ : ∃ p, Ps[u] = p := ⟨_, rfl⟩
                  have hpo : Okp size p := by rw [← hp]; exact HPP.out _ (List.getElem_mem huP)
                  have hp0 : p.take 2 = [j2 / 256, j2 % 256] := by
                    have hl2 : 1 < p.length := by rw [hpo.1]; omega
                    have h1 : bkt 2 p = j2 := by
                      rw [← hp, ← hbu]
                      unfold bk
                      rw [getD_at huP]
                    have h2 := bkt_succ 1 p hl2
                    rw [h1, bkt_one p (by omega)] at h2
                    have hc := hpo.2 p[1] (List.getElem_mem hl2)
                    unfold stp at h2
                    have e0 : p[0] = j2 / 256 := by omega
                    have e1 : p[1] = j2 % 256 := by omega
                    rw [List.take_add_one, List.take_add_one, List.take_zero, List.getElem?_eq_getElem (show 0 < p.length by omega), List.getElem?_eq_getElem hl2, e0, e1]
                    rfl
                  obtain ⟨o, ho⟩ : ∃ o, (u - i) * size = o := ⟨_, rfl⟩
                  have hoI : ((u : Int) - (i : Int)) * (size : Int) = (o : Int) := by
                    rw [← ho, Int.natCast_mul]
                    congr 1
                    omega
                  have hosz : o + size ≤ sz := by
                    have h1 : (u - i + 1) * size ≤ (e - i) * size := Nat.mul_le_mul_right _ (by omega)
                    rw [HSZ.out, Nat.add_mul, ho] at h1
                    omega
                  have hlen : (cut Ps i u).flatten.length = o := by rw [flat_len (cut_ok HPP.out i u), cut_len Ps i u (by omega) (by omega), ho]
                  have hsru : Sr wr gx tx bx gb gt gs ub size 2 gcap to Ps := Sr.kept HSR3.out hflu.2 (fun k e => by have := HAP.out; omega)
                  have hfcu : Cl wr fx 3 [.int .i64 (i : Int)] := hflu.2.cl HFC3.out (by have := HAP.out; omega)
                  obtain ⟨e0, e1, e2, e3⟩ := Sr.cells hsru (by decide)
                  rw [HLO.out] at e3
                  have eg := hsru.cg
                  have ef := hfcu.cell 0 (by simp)
                  simp only [List.getElem_cons_zero] at ef
                  have HFLU := hid hflu
                  have HSRU := hid hsru
                  have HLEN := hid hlen
                  have HPO := hid hpo
                  have HP0 := hid hp0
                  have HPU := hid hp
                  have HOO := hid ho
                  clear hflu hsru hfcu hlen hpo hp0 hp ho hbu c0 c1 c2 c3 cg cs1'
                  go_wp2_with fail
                  go_quiet (fail)
                  have hdA : Drawn wr (wr.drewN nq) := ⟨nq, rfl⟩
                  generalize wr.drewN nq = WA at *
                  have a0 := (Drawn.cell hdA _).trans e0
                  have ag := (Drawn.cell hdA _).trans eg
                  go_wp2_with fail
                  go_quiet (fail)
                  have hdB : Drawn wr (WA.drewN nq) := Drawn.trans hdA ⟨nq, rfl⟩
                  generalize WA.drewN nq = WB at *
                  have hflB := Fl.drawn HFLU.out hdB
                  have hsrB := Sr.kept HSRU.out (Keeps.of_drawn hdB fun _ => False) (fun _ h => h.elim)
                  obtain ⟨b0, b1, b2, b3⟩ := Sr.cells hsrB (by decide)
                  rw [HLO.out] at b3
                  have bg := hsrB.cg
                  obtain ⟨⟨uv, hcu⟩, hfu⟩ := Fl.cell hflB o (by omega)
                  obtain ⟨q0, hq0⟩ : ∃ q0, j2 / 256 = q0 := ⟨_, rfl⟩
                  obtain ⟨q1, hq1⟩ : ∃ q1, j2 % 256 = q1 := ⟨_, rfl⟩
                  have hp2 := HP0.out
                  rw [hq0, hq1] at hp2
                  obtain ⟨⟨uv1, hcu1⟩, hfu1⟩ := Fl.cell hflB (o + 1) (by omega)
                  have hput := Fl.put (Fl.put hflB (by rw [HLEN.out]; omega) q0) (by rw [List.length_append, HLEN.out, List.length_singleton]; omega) q1
                  rw [List.length_append, List.length_singleton, HLEN.out, List.append_assoc, show [q0] ++ [q1] = p.take 2 by rw [hp2]; rfl] at hput
                  unfold Mem.u8 at hput
                  have hv0 : (j2 : Int) / 256 = (q0 : Int) := by omega
                  have hv1 : (j2 : Int) % 256 = (q1 : Int) := by omega
                  have hv2 : (q0 : Int) % 256 = (q0 : Int) := by omega
                  clear hp2 hq0 hq1
                  have hap := HAP.out
                  have n1 : ub ≠ gx := by omega
                  have n2 : ub ≠ gb := by omega
                  have n3 : gx ≠ ub := by omega
                  have n4 : gb ≠ ub := by omega
                  obtain ⟨un, hun⟩ : ∃ un, u * nn = un := ⟨_, rfl⟩
                  have hunI : (u : Int) * (nn : Int) = (un : Int) := by rw [← hun, Int.natCast_mul]
                  have hun2I : ((u : Int) + 1) * (nn : Int) = (un : Int) + (nn : Int) := by rw [Int.add_mul, hunI, Int.one_mul]
                  have hunl : un + nn ≤ lo := by
                    have h1 : (u + 1) * nn ≤ Ps.length * nn := Nat.mul_le_mul_right _ huP
                    have h2 : Ps.length * nn = lo := by rw [← HLO.out, ← HNN.out]; rfl
                    rw [h2, Nat.add_mul, hun] at h1
                    omega
                  have hnnp : 0 < nn := by have := HNN.out; omega
                  have HPUT := hid hput
                  have HUN := hid hun
                  have HAP2 := hid hap
                  clear hflB hsrB hput hap hdA hdB a0 ag e0 e1 e2 e3 eg ef hun
                  go_wp2_with fail
                  clear b0 b1 b2 b3 bg hcu hfu hcu1 hfu1 n1 n2 n3 n4
                  generalize (WB.setCell ⟨ub, o, none⟩ (.int .u8 (q0 : Int))).setCell ⟨ub, o + 1, none⟩ (.int .u8 (q1 : Int)) = WC at *
                  go_loopw [15, 16, 186] (fun _ _ kv wr' => ∃ k : Nat, k ≤ nn ∧ kv = .int .i64 (k : Int) ∧ Fl W3 ub ((cut Ps i u).flatten ++ p.take (2 + k)) wr') (fun _ _ kv _ => nn - (intOf kv).toNat)
                  case atStart => exact ⟨0, Nat.zero_le _, rfl, HPUT.out⟩
                  case round =>
                    obtain ⟨k, hk, rfl, hflk⟩ := hrel
                    have hsrk : Sr wr gx tx bx gb gt gs ub size 2 gcap to Ps := Sr.kept HSR3.out hflk.2 (fun k e => by have := HAP2.out; omega)
                    obtain ⟨b0, b1, b2, b3⟩ := Sr.cells hsrk (by decide)
                    have bg := hsrk.cg
                    by_cases hkn : k < nn
                    · have hkp : 2 + k < p.length := by rw [HPO.out.1]; have := HNN.out; omega
                      have htk := hsrk.tl.rd
                      have hta := tls_at HPP.out hs1 u huP k (by rw [HNN.out]; exact hkn)
                      rw [HNN.out, HUN.out, HPU.out, List.getElem?_eq_getElem hkp] at hta
                      obtain ⟨hlt, hta2⟩ := List.getElem?_eq_some_iff.1 hta
                      have hcell := htk (un + k) hlt
                      rw [hta2, Nat.zero_add] at hcell
                      obtain ⟨ch, hch⟩ : ∃ ch, p[2 + k] = ch := ⟨_, rfl⟩
                      rw [hch] at hcell
                      have hcell2 : wr.cell? ⟨gt, un + k, none⟩ = some (.int .u8 (ch : Int)) := hcell
                      have hlk : ((cut Ps i u).flatten ++ p.take (2 + k)).length = o + (2 + k) := by rw [List.length_append, HLEN.out, List.length_take, Nat.min_eq_left (by omega)]
                      have hput := Fl.put hflk (by rw [hlk]; have := HNN.out; omega) ch
                      rw [hlk, List.append_assoc] at hput
                      have hext : p.take (2 + k) ++ [ch] = p.take (2 + (k + 1)) := by
                        rw [show 2 + (k + 1) = (2 + k) + 1 by omega, List.take_add_one, List.getElem?_eq_getElem hkp, hch]
                        rfl
                      rw [hext] at hput
                      unfold Mem.u8 at hput
                      obtain ⟨⟨kv, hkc⟩, hkf⟩ := Fl.cell hflk (o + (2 + k)) (by have := HNN.out; omega)
                      have HPUT2 := hid hput
                      have hk1 : (2 : Int) + (k : Int) < (size : Int) := by have := HNN.out; omega
                      have hknI : (k : Int) < (nn : Int) := by omega
                      clear hflk hsrk hput hext hlk htk hta hta2 hcell hch
                      go_wp2
                      exact ⟨⟨k + 1, by omega, by go_num, HPUT2.out⟩, by simp [intOf]; omega⟩
                    · obtain rfl : k = nn := by omega
                      have hpt : p.take (2 + k) = p := List.take_of_length_le (by rw [HPO.out.1]; have := HNN.out; omega)
                      have hfin : Fl W3 ub (cut Ps i (u + 1)).flatten wr := by
                        rw [cut_snoc (by omega) huP, HPU.out]
                        rw [hpt] at hflk
                        exact hflk
                      have HFIN := hid hfin
                      clear hflk hsrk hfin hpt
                      go_wp2
                      exact ⟨⟨u + 1, by omega, by omega, by go_num, HFIN.out⟩, by simp [intOf]; omega⟩
                · obtain rfl : u = sp := by omega
                  have hjs : u < to → j2 ≤ bk 2 Ps u := fun h => by
                    have := bk_mono HMM.out htu (show u < Ps.length by omega)
                    have := HJ3.out
                    omega
                  have HJS := hid hjs
                  have HFLU := hid hflu
                  clear hjs hflu
                  go_wp2
                  exact ⟨⟨u, j2, by omega, by omega, rfl, rfl, HJS.out, hj2n, HFLU.out⟩, by simp [intOf]; omega⟩
        · obtain rfl : t = e := by omega
          have hjw : J i wr := HJ.out i W3 wr HJJ3.out (hfl.2.mono fun _ _ e => .inl e)
          have harg := Fl.arg hfl (n := sz) (by rw [flat_len (cut_ok HPP.out i t), cut_len Ps i t (by omega) (by omega), HSZ.out]) hsz1
          obtain ⟨fn, tmps, assign, body, hy, hR⟩ := HY.out i t sz 16384 wr hfri (by omega) he1.2.1 hjw harg
          have hfcw : Cl wr fx 3 [.int .i64 (i : Int)] := hfl.2.cl HFC3.out (by have := HAP.out; omega)
          have hfinal : ∀ W2, J t W2 → Keeps N wr W2 → W2.cell? ⟨fx, 0, none⟩ = some (.int .i64 (i : Int)) ∧ W2.frozen? ⟨fx, 0, none⟩ = false ∧ L1 gx fx tx bx gb gt gs ub size 2 gcap fr to Ps J t j' (W2.setCell ⟨fx, 0, none⟩ (.int .i64 (t : Int))) := fun W2 hJ2 hkN => by
            have hfc2 := hkN.cl hfcw (fun hn => (HN.out fx hn).2.2.2.2.2.2.1 rfl)
            have hk3 : Keeps (fun k => k = fx) W2 (W2.setCell ⟨fx, 0, none⟩ (.int .i64 (t : Int))) := Keeps.set _ _ _ rfl
            obtain ⟨⟨cs, h1, h2, _⟩, _⟩ := hfl
            refine ⟨by simpa using hfc2.cell 0 (by simp), hfc2.frozen 0, ⟨Sr.kept (Sr.kept hsr hkN (fun k hn => by have := HN.out k hn; omega)) hk3 (fun k e => by have := HAP.out; omega), by simpa using hfc2.set 0 (.int .i64 (t : Int)), ⟨cs, hk3.cl (hkN.cl h1 (fun hn => (HN.out ub hn).2.2.2.2.2.2.2 rfl)) (by have := HAP.out; omega), h2⟩, HJ.out t W2 _ hJ2 (hk3.mono fun _ _ e => .inr e), by omega, he1.2.1, hjb, hjn⟩⟩
          have HFINAL := hid hfinal
          have hfrom : fromOf wr fx = i := by
            unfold fromOf
            rw [hfcw.cell 0 (by simp)]
            simp
          have HFROM := hid hfrom
          clear hfinal hfl hsr hjw harg hfcw hjb hjn c0 c1 c2 c3 cg hfrom
          go_upto_region 28 with fail
          refine (wpIn_wide (n := 1)).1 ?_
          gi_wp2
          refine hR.mono ?_
          rintro e2 W2 ⟨rfl, hJ2, hkN⟩
          obtain ⟨g1, g2, hl2⟩ := HFINAL.out W2 hJ2 hkN
          have HL2 := hid hl2
          clear hJ2 hkN hl2
          gi_wp2
          go_wp2
          exact ⟨⟨t, j', rfl, HL2.out⟩, by rw [L1.from HL2.out, L1.from HL.out]; omega⟩
    · obtain rfl : i = to := by omega
      have HJT := hid hl1.jj
      clear hl1
      go_wp2
      go_end0
      exact ⟨rfl, HJT.out⟩
end Go.Proofs.Ybulkehgw.Chm
