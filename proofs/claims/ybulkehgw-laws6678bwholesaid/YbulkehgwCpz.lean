/-
  The builder's copy (f12) where the source holds its prefixes whole.
-/
import Derived.Test.YbulkehgwCpy
namespace Go.Proofs.Ybulkehgw.Cpz
open Go.RowKit Pl Mem Bld AddZ AddL Grp Chk Chl Rng Cpy
attribute [local go_sem] Oper.semAt_some

set_option maxHeartbeats 2000000 in
set_option maxRecDepth 100000 in
theorem copy_zero (bb tb sb gb gt gs size dl cap gcap fr to : Nat) (A Ps : List Bs) (w : World) (hB : Bd w bb tb sb size dl cap A (.slice none 0 0)) (hG : Gr w gb gt gs size 0 gcap Ps) (hft : fr < to)
    (hap : bb ≠ gb ∧ bb ≠ gt ∧ tb ≠ gb ∧ tb ≠ gt ∧ sb ≠ gb ∧ sb ≠ gt ∧ sb < w.heap.size) (hP : ∀ p ∈ Ps, Okp size p) (hA : ∀ p ∈ A, Okp size p) (hMA : Mono dl (A ++ cut Ps fr to)) (hm : Ps.length ≤ 1048576) (hto : to ≤ Ps.length) (hs1 : 1 ≤ size) (hs : size ≤ 4) (hgc : len size 0 Ps ≤ gcap) (hgm : gcap ≤ 4194304) (hdl : dl ≤ 2) (hds : dl < size) (hfit : (A ++ cut Ps fr to).length * (size - dl) ≤ cap) (hcap : cap ≤ 4194304) :
    Calls Yba.prog 12 #[.pointer (some ⟨bb, 0, none⟩), .pointer (some ⟨gb, 0, none⟩), .int .i64 (fr : Int), .int .i64 (to : Int)] w fun e w' => e = .returned (.tuple #[]) ∧ ∃ ub, Bd w' bb tb sb size dl cap (A ++ cut Ps fr to) (.slice (some ⟨ub, 0, none⟩) 16384 16384) ∧ Keeps (fun k => k = bb ∨ k = tb ∨ k = sb) w w' := by
  obtain ⟨i5, hi5, hz50, hz51, hz52⟩ := info_parts Yba.rowInfo5
  have hnil := fun w a n c n' c' => Lib.run_eql_slice_nil (P := Yba.prog) w 22 5 a n c n' c' Yba.underlying22
  have c5 := hB.hd.cell 5 (by simp)
  have f5 := hB.hd.frozen 5
  simp only [List.getElem_cons_succ, List.getElem_cons_zero] at c5
  have hbl := hB.hd.lt
  have lgb0 : gb < w.heap.size := hG.gr.lt
  have lgt0 : gt < w.heap.size := hG.tl.lt
  have ltb0 : tb < w.heap.size := by obtain ⟨cs, h1, _⟩ := hB.tl; exact h1.lt
  have h' : ¬ (to : Int) ≤ (fr : Int) := by omega
  obtain ⟨wm, hmk, hown, hgr⟩ := run_make_full (P := Yba.prog) (w.alloc (.cells #[.pointer (some ⟨bb, 0, none⟩)] 34)).drew 0 22 5 i5 _ 1 Yba.underlying22 hi5 hz50 hz51 .i64 .i64 16384 (by rw [hz52]; decide) (by decide) (Nat.zero_le _)
  rw [show ((16384 : Nat) : Int) = 16384 from rfl] at hmk
  have hub : (w.alloc (.cells #[.pointer (some ⟨bb, 0, none⟩)] 34)).drew.heap.size = w.heap.size + 1 := by
    show (w.alloc (.cells #[.pointer (some ⟨bb, 0, none⟩)] 34)).heap.size = _
    simp
  rw [hub] at hmk hown
  obtain ⟨csb, hclb, hlb, _, _⟩ := cl_of_own hown
  have hkm : Keeps (fun _ => False) w wm := ((Keeps.alloc w _ _).trans (Keeps.of_drawn (drawn_one _) _)).trans ((Keeps.of_grown hgr).mono fun _ _ e => by cases e)
  have hBm := Bd.kept hB hkm (fun h => h) (fun h => h) (fun _ h => h)
  have hGm := Gr.kept hG hkm (fun h => h) (fun h => h) (fun _ h => h)
  have hxm : Cl wm w.heap.size 34 [.pointer (some ⟨bb, 0, none⟩)] := grown_cl hgr (Cl.same (Cl.new w 34 #[.pointer (some ⟨bb, 0, none⟩)]) rfl) (by simp)
  have x0 := hxm.cell 0 (by simp)
  have d5 := hBm.hd.cell 5 (by simp)
  have g5 := hBm.hd.frozen 5
  simp only [List.getElem_cons_succ, List.getElem_cons_zero] at x0 d5
  have hbx : bb ≠ w.heap.size := by omega
  have HBM := hid hBm
  have HGM := hid hGm
  have HXM := hid hxm
  have HCB := hid hclb
  have HKM := hid hkm
  clear hB hG hown hgr hBm hGm hxm hclb hkm
  refine (callsIn_wide (n := 1)).1 (callsIn_of_wp_marks Yba.func12 rfl trivial ?_ rfl)
  refine wpIn_wide.2 ?_
  simp only [Yba.ntmps12, List.size_toArray, List.length_cons, List.length_nil, Nat.reduceAdd, Nat.reduceSub, Array.replicate_succ, Array.replicate_zero, List.push_toArray, List.append_toArray, List.nil_append, List.cons_append]
  go_wp2_with fail
  go_region
  go_wp2_with fail
  obtain ⟨bv, hbv⟩ : ∃ bv, bv = Value.slice (some ⟨w.heap.size + 1, 0, none⟩) 16384 16384 := ⟨_, rfl⟩
  have hB1 := Bd.buf (buf' := .slice (some ⟨w.heap.size + 1, 0, none⟩) 16384 16384) HBM.out
  have hk1 : Keeps (fun k => k = bb) wm (wm.setCell ⟨bb, 5, none⟩ (.slice (some ⟨w.heap.size + 1, 0, none⟩) 16384 16384)) := Keeps.set _ _ _ rfl
  have hne : bb ≠ gb := Cl.ne HBM.out.hd HGM.out.gr (by decide)
  have hG1 := Gr.kept HGM.out hk1 (Ne.symm hne) (fun e => hap.2.1 e.symm) (fun h => absurd rfl h)
  have hx1 := hk1.cl HXM.out (Ne.symm hbx)
  have hb1 := hk1.cl HCB.out (fun e => by omega)
  have hwW : w.heap.size ≤ (wm.setCell ⟨bb, 5, none⟩ (.slice (some ⟨w.heap.size + 1, 0, none⟩) 16384 16384)).heap.size := Nat.le_trans HKM.out.size hk1.size
  have hsz1 : w.heap.size + 1 < (wm.setCell ⟨bb, 5, none⟩ (.slice (some ⟨w.heap.size + 1, 0, none⟩) 16384 16384)).heap.size := hb1.lt
  generalize wm.setCell ⟨bb, 5, none⟩ (.slice (some ⟨w.heap.size + 1, 0, none⟩) 16384 16384) = W1 at *
  refine (chunks_made gb fr to (some ⟨w.heap.size + 1, 0, none⟩) 16384 16384 W1).mono ?_
  rintro e w2 ⟨rfl, hw2⟩
  have y1 : Keeps (fun _ => False) W1 w2 := by rw [hw2]; exact (((Keeps.alloc _ _ _).trans (Keeps.alloc _ _ _)).trans (Keeps.alloc _ _ _)).trans (Keeps.alloc _ _ _)
  have y2 : Cl w2 W1.heap.size 38 [.pointer (some ⟨gb, 0, none⟩)] := by
    rw [hw2]
    exact (((Keeps.alloc _ _ (fun _ => False)).trans (Keeps.alloc _ _ _)).trans (Keeps.alloc _ _ _)).cl (Cl.new W1 38 #[.pointer (some ⟨gb, 0, none⟩)]) (fun h => h)
  have y3 : Cl w2 (W1.heap.size + 1) 22 [.slice (some ⟨w.heap.size + 1, 0, none⟩) 16384 16384] := by
    rw [hw2]
    have := ((Keeps.alloc _ (.cells #[.int .i64 (fr : Int)] 3) (fun _ => False)).trans (Keeps.alloc _ (.cells #[.int .i64 (to : Int)] 3) _)).cl (Cl.new (W1.alloc (.cells #[.pointer (some ⟨gb, 0, none⟩)] 38)) 22 #[.slice (some ⟨w.heap.size + 1, 0, none⟩) 16384 16384]) (fun h => h)
    simpa using this
  have y4 : Cl w2 (W1.heap.size + 1 + 1) 3 [.int .i64 (fr : Int)] := by
    rw [hw2]
    have := (Keeps.alloc _ (.cells #[.int .i64 (to : Int)] 3) (fun _ => False)).cl (Cl.new ((W1.alloc (.cells #[.pointer (some ⟨gb, 0, none⟩)] 38)).alloc (.cells #[.slice (some ⟨w.heap.size + 1, 0, none⟩) 16384 16384] 22)) 3 #[.int .i64 (fr : Int)]) (fun h => h)
    simpa using this
  have y5 : Cl w2 (W1.heap.size + 1 + 1 + 1) 3 [.int .i64 (to : Int)] := by
    rw [hw2]
    have := Cl.new (((W1.alloc (.cells #[.pointer (some ⟨gb, 0, none⟩)] 38)).alloc (.cells #[.slice (some ⟨w.heap.size + 1, 0, none⟩) 16384 16384] 22)).alloc (.cells #[.int .i64 (fr : Int)] 3)) 3 #[.int .i64 (to : Int)]
    simpa using this
  clear hw2
  go_wp2_with fail
  refine range_st (gf := 35) rfl (enters_of Yba.func35 (by kernel_rfl) rfl) (fun W2 => Bd W2 bb tb sb size dl cap (A ++ cut Ps fr to) (.slice (some ⟨w.heap.size + 1, 0, none⟩) 16384 16384) ∧ Keeps (fun k => k = bb ∨ k = tb ∨ k = sb) w W2) ?_ ?_
  · intro fn r hr Wl hWl
    have hkl : Keeps (fun _ => False) w2 Wl := by rw [hWl]; exact (Keeps.alloc _ _ _).trans (Keeps.alloc _ _ _)
    have hL : Wl.heap[w2.heap.size + 1]? = some (.loop r) := by
      rw [hWl]
      have := heap_alloc_new (w2.alloc (.deferred (some []))) (.loop r)
      rwa [World.size_alloc] at this
    have hD : Wl.heap[w2.heap.size]? = some (.deferred (some [])) := by
      rw [hWl]
      exact (Below.heap_alloc _ _ _ (by simp)).trans (heap_alloc_new w2 _)
    have hk1l : Keeps (fun _ => False) W1 Wl := y1.trans hkl
    have hkwl : Keeps (fun k => k = bb ∨ k = tb ∨ k = sb) w Wl := ((HKM.out.mono fun _ _ h => h.elim).trans (hk1.mono fun _ _ e => .inl e)).trans (hk1l.mono fun _ _ h => h.elim)
    clear hWl
    have hB3 := Bd.kept hB1 hk1l (fun h => h) (fun h => h) (fun _ h => h)
    have hG3 := Gr.kept hG1 hk1l (fun h => h) (fun h => h) (fun _ h => h)
    have hx3 := hk1l.cl hx1 (fun h => h)
    have hb3 := hk1l.cl hb1 (fun h => h)
    have z2 := hkl.cl y2 (fun h => h)
    have z3 := hkl.cl y3 (fun h => h)
    have z4 := hkl.cl y4 (fun h => h)
    have z5 := hkl.cl y5 (fun h => h)
    have hsrc : Sr Wl W1.heap.size (W1.heap.size + 1 + 1 + 1) (W1.heap.size + 1) gb gt gs (w.heap.size + 1) size 0 gcap to Ps := ⟨z2.cell 0 (by simp), z5.cell 0 (by simp), z3.cell 0 (by simp), hG3.gr, hG3.tl, hG3.st⟩
    have lgb : gb < W1.heap.size := hG1.gr.lt
    have lgt : gt < W1.heap.size := hG1.tl.lt
    have lbb : bb < W1.heap.size := hB1.hd.lt
    have ltb : tb < W1.heap.size := by obtain ⟨cs, h1, _⟩ := hB1.tl; exact h1.lt
    have lw2 : W1.heap.size + 1 + 1 + 1 < w2.heap.size := y5.lt
    have lub : w.heap.size + 1 < W1.heap.size := hb1.lt
    have nug : w.heap.size + 1 ≠ gb := Cl.ne hb1 hG1.gr (by decide)
    refine (chunks_zero (w2.heap.size + 1) W1.heap.size (W1.heap.size + 1 + 1) (W1.heap.size + 1 + 1 + 1) (W1.heap.size + 1) gb gt gs (w.heap.size + 1) size gcap fr to Ps Wl
      (fun i W => Bd W bb tb sb size dl cap (A ++ cut Ps fr i) (.slice (some ⟨w.heap.size + 1, 0, none⟩) 16384 16384) ∧ W.heap[w2.heap.size + 1]? = some (.loop r) ∧ W.heap[w2.heap.size]? = some (.deferred (some [])) ∧ Cl W w.heap.size 34 [.pointer (some ⟨bb, 0, none⟩)] ∧ Keeps (fun k => k = bb ∨ k = tb ∨ k = sb) w W ∧ Keeps (fun k => k = bb ∨ k = tb ∨ k = sb ∨ k = w2.heap.size + 1) Wl W ∧ fr ≤ i)
      hsrc (z4.cell 0 (by simp)) hP hm hto hft hs1 hs hgc hgm ?_ ?_ ?_ ?_).mono ?_
    · rintro i W W' ⟨q1, q2, q3, q4, q5, q6, q7⟩ hdr
      have hK := Keeps.of_drawn hdr (fun _ => False)
      exact ⟨Bd.kept q1 hK (fun h => h) (fun h => h) (fun _ h => h), by rw [hdr.heap]; exact q2, by rw [hdr.heap]; exact q3, hK.cl q4 (fun h => h), q5.trans (hK.mono fun _ _ h => h.elim), q6.trans (hK.mono fun _ _ h => h.elim), q7⟩
    · refine ⟨?_, hL, hD, hx3, hkwl, Keeps.refl _ _, Nat.le_refl _⟩
      have : cut Ps fr fr = [] := by unfold cut; rw [Nat.sub_self]; rfl
      rw [this, List.append_nil]
      exact hB3
    · rintro W ⟨_, _, _, _, _, q6, _⟩
      have w1 := q6.cl z2 (by omega)
      have w2' := q6.cl z4 (by omega)
      have w3 := q6.cl z5 (by omega)
      have w4 := q6.cl hG3.gr (by omega)
      exact ⟨w1.cell 0 (by simp), w2'.cell 0 (by simp), w3.cell 0 (by simp), by simpa using w4.cell 0 (by simp), by simpa using w4.cell 3 (by simp)⟩
    · rintro i e ao n c W' hie heto ⟨q1, q2, q3, q4, q5, q6, hfi⟩ _ harg hao
      have ql := (Array.getElem?_eq_some_iff.1 q2).1
      obtain ⟨Wb, hWb⟩ : ∃ Wb, W'.putObj (w2.heap.size + 1) (.loop { r with state := .busy }) = Wb := ⟨_, rfl⟩
      have hkb : Keeps (fun k => k = w2.heap.size + 1) W' Wb := by rw [← hWb]; exact (Keeps.of_grown (grownBy_putObj' _ _ _)).mono fun k _ e => (Option.some.inj e).symm
      have hlb' : Wb.heap[w2.heap.size + 1]? = some (.loop { r with state := .busy }) := by rw [← hWb]; exact World.putObj_heap_same ql
      have hBb := Bd.kept q1 hkb (by omega) (by omega) (fun _ => by omega)
      have hxb := hkb.cl q4 (by omega)
      have hargb : Arg Wb ao n c (cut Ps i e).flatten := harg.kept hkb (fun b off e h0 => by have := hao b off e (by rw [← harg.ln]; exact h0); omega)
      have hsplit := cut_split Ps fr i e hfi hie
      have hfull := cut_split Ps fr e to (by omega) heto
      have hokA : ∀ p ∈ (A ++ cut Ps fr i) ++ cut Ps i e, Okp size p := fun p hp => by
        rcases List.mem_append.1 hp with h | h
        · rcases List.mem_append.1 h with h | h
          · exact hA p h
          · exact cut_ok hP _ _ p h
        · exact cut_ok hP _ _ p h
      have hpre : A ++ cut Ps fr to = ((A ++ cut Ps fr i) ++ cut Ps i e) ++ cut Ps e to := by rw [hfull, hsplit]; simp only [List.append_assoc]
      have hMA' : Mono dl ((A ++ cut Ps fr i) ++ cut Ps i e) := by
        rw [hpre] at hMA
        exact (List.pairwise_append.1 hMA).1
      have hfit' : ((A ++ cut Ps fr i) ++ cut Ps i e).length * (size - dl) ≤ cap := by
        refine Nat.le_trans (Nat.mul_le_mul_right _ ?_) hfit
        rw [hpre, List.length_append (bs := cut Ps e to)]
        omega
      have hadd := add_any bb tb sb size dl cap (A ++ cut Ps fr i) (cut Ps i e) (.slice (some ⟨w.heap.size + 1, 0, none⟩) 16384 16384) ao n c Wb hBb hargb (fun b off e h0 => by have := hao b off e (by rw [← harg.ln]; exact h0); omega) hokA hMA' hfit' hcap hdl hds hs
      have x0b := hxb.cell 0 (by simp)
      simp only [List.getElem_cons_zero] at x0b
      have hfin : ∀ W3, Bd W3 bb tb sb size dl cap ((A ++ cut Ps fr i) ++ cut Ps i e) (.slice (some ⟨w.heap.size + 1, 0, none⟩) 16384 16384) → Keeps (fun k => k = bb ∨ k = tb ∨ k = sb) Wb W3 → W3.heap[w2.heap.size + 1]? = some (.loop { r with state := .busy }) ∧ ((Bd (W3.putObj (w2.heap.size + 1) (.loop r)) bb tb sb size dl cap (A ++ cut Ps fr e) (.slice (some ⟨w.heap.size + 1, 0, none⟩) 16384 16384) ∧ (W3.putObj (w2.heap.size + 1) (.loop r)).heap[w2.heap.size + 1]? = some (.loop r) ∧ (W3.putObj (w2.heap.size + 1) (.loop r)).heap[w2.heap.size]? = some (.deferred (some [])) ∧ Cl (W3.putObj (w2.heap.size + 1) (.loop r)) w.heap.size 34 [.pointer (some ⟨bb, 0, none⟩)] ∧ Keeps (fun k => k = bb ∨ k = tb ∨ k = sb) w (W3.putObj (w2.heap.size + 1) (.loop r))) ∧ Keeps (fun k => k = bb ∨ k = tb ∨ k = sb ∨ k = w2.heap.size + 1) W' (W3.putObj (w2.heap.size + 1) (.loop r))) := fun W3 hb3' hk3' => by
        have hl3 := (hk3'.block _ (Nat.lt_of_lt_of_le ql hkb.size) (by omega)).trans hlb'
        have hlt3 := (Array.getElem?_eq_some_iff.1 hl3).1
        have hkp : Keeps (fun k => k = w2.heap.size + 1) W3 (W3.putObj (w2.heap.size + 1) (.loop r)) := (Keeps.of_grown (grownBy_putObj' _ _ _)).mono fun k _ e => (Option.some.inj e).symm
        have hall : Keeps (fun k => k = bb ∨ k = tb ∨ k = sb ∨ k = w2.heap.size + 1) W' (W3.putObj (w2.heap.size + 1) (.loop r)) := ((hkb.mono fun _ _ e => .inr (.inr (.inr e))).trans (hk3'.mono fun _ _ e => by omega)).trans (hkp.mono fun _ _ e => .inr (.inr (.inr e)))
        refine ⟨hl3, ⟨?_, World.putObj_heap_same hlt3, (hall.block _ (by omega) (by omega)).trans q3, hall.cl q4 (by omega), ?_⟩, hall⟩
        · rw [hsplit, ← List.append_assoc]
          exact Bd.kept hb3' hkp (by omega) (by omega) (fun _ => by omega)
        · refine ⟨hall.os.trans q5.os, hall.tape.trans q5.tape, hall.output.trans q5.output, Nat.le_trans q5.size hall.size, fun k hk hm => (hall.block k (Nat.lt_of_lt_of_le hk q5.size) (by omega)).trans (q5.block k hk hm)⟩
      have HADD := hid hadd
      have HFIN := hid hfin
      refine round_st hr q2 rfl ?_ ?_ ?_
      rotate_left
      · intro K hK
        gi_wp2
        exact hK
      · rw [hWb]
        clear hadd hfin hr hsplit hfull hpre
        gi_wp2
        refine ⟨trivial, rfl, ?_⟩
        refine (CallsIn.inRound _ (callsIn_wide.2 HADD.out)).mono ?_
        rintro e3 W3 ⟨rfl, hb3', hk3'⟩
        have HF3 := hid (HFIN.out W3 hb3' hk3')
        clear hb3' hk3'
        gi_wp2
        obtain ⟨p1, ⟨p2, p3, p4, p5, p6⟩, p7⟩ := HF3.out
        exact ⟨p1, p2, p3, p4, p5, p6, q6.trans p7, by omega⟩
    · rintro e W9 ⟨rfl, hb9, hl9, hd9, _, hk9, _, _⟩
      exact ⟨⟨_, rfl⟩, ⟨hb9, hk9⟩, hl9, hd9⟩
  · rintro W2 W3 ⟨hb, hk⟩ hg3 hd
    have hk3 : Keeps (fun k => some (w2.heap.size + 1) = some k) W2 W3 := Keeps.of_grown hg3
    have hkW : Keeps (fun k => k = w2.heap.size) W3 (W3.putObj w2.heap.size (.deferred none)) := (Keeps.of_grown (grownBy_putObj' W3 w2.heap.size (.deferred none))).mono fun k _ e => (Option.some.inj e).symm
    have hlt : bb < w2.heap.size ∧ tb < w2.heap.size ∧ (dl ≠ 0 → sb < w2.heap.size) := by
      obtain ⟨cs, h1, _⟩ := hB1.tl
      exact ⟨Nat.lt_of_lt_of_le hB1.hd.lt y1.size, Nat.lt_of_lt_of_le h1.lt y1.size, fun h => Nat.lt_of_lt_of_le (hB1.st h).lt y1.size⟩
    have hbf : Bd (W3.putObj w2.heap.size (.deferred none)) bb tb sb size dl cap (A ++ cut Ps fr to) (.slice (some ⟨w.heap.size + 1, 0, none⟩) 16384 16384) :=
      Bd.kept (Bd.kept hb hk3 (fun e => by have := Option.some.inj e; omega) (fun e => by have := Option.some.inj e; omega) (fun h e => by have := Option.some.inj e; have := hlt.2.2 h; omega)) hkW (by omega) (by omega) (fun h => by have := hlt.2.2 h; omega)
    have hwle : w.heap.size ≤ w2.heap.size := Nat.le_trans hwW y1.size
    have hkf : Keeps (fun k => k = bb ∨ k = tb ∨ k = sb) w (W3.putObj w2.heap.size (.deferred none)) := keeps_put ⟨hg3.os.trans hk.os, hg3.tape.trans hk.tape, hg3.output.trans hk.output, Nat.le_trans hk.size hg3.size, fun k hk' hm => (hg3.block k (Nat.lt_of_lt_of_le hk' hk.size) (fun e => by have := Option.some.inj e; omega)).trans (hk.block k hk' hm)⟩ _ _ hwle
    have HBF := hid hbf
    have HKF := hid hkf
    clear hb hk hg3 hk3 hkW hbf hkf
    go_wp2
    refine ⟨by simp, .inl ⟨_, _, rfl, run_takeDeferred hd, ?_⟩⟩
    exact ⟨_, results_none rfl _ _ _, rfl, _, HBF.out, HKF.out⟩
end Go.Proofs.Ybulkehgw.Cpz
