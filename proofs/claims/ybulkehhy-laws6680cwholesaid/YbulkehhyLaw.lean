import Derived.Test.YbulkehhyAcc
namespace Go.Proofs.Ybulkehhy.Walks
open Go.RowKit Plain SM

theorem Yba.info37 : (Yba.prog.info? 37).map (fun i => (i.zero, i.size, i.bytes)) = some (some (.agg #[.pointer none, .string ⟨#[]⟩, .string ⟨#[]⟩, .int .u64 0, .int .u64 0, .string ⟨#[]⟩]), 6, 72) := by kernel_rfl

def cell6 (p : ByteArray × Ent) : List Value := [.pointer none, .string p.1, .string p.2.part, .int .u64 p.2.pr, .int .u64 p.2.ac, .string p.2.val]
def recCells (rs : List (ByteArray × Ent)) : List Value := rs.flatMap cell6
theorem recCells_at : ∀ (rs : List (ByteArray × Ent)) (i j : Nat) (h : i < rs.length), j < 6 → (recCells rs)[i * 6 + j]? = (cell6 rs[i])[j]?
  | [], _, _, h, _ => by simp at h
  | p :: r, 0, j, _, hj => by
    simp only [recCells, List.flatMap_cons, Nat.zero_mul, Nat.zero_add, List.getElem_cons_zero]
    rw [List.getElem?_append_left (by simpa [cell6] using hj)]
  | p :: r, i + 1, j, h, hj => by
    have ih := recCells_at r i j (by simpa using h) hj
    simp only [recCells, List.flatMap_cons, List.getElem_cons_succ] at ih ⊢
    rw [List.getElem?_append_right (by simp [cell6]; omega), ← ih]
    congr 1
    simp [cell6]; omega
theorem recs_of {w : World} {base g n cap : Nat} {rs : List (ByteArray × Ent)} (h : w.ownsRow base 37 6 (.slice (some ⟨g, 0, none⟩) n cap) n (recCells rs)) (hn : n = rs.length) : Recs w g rs := by
  intro i hi
  have hc : ∀ j, j < 6 → w.cell? ⟨g, i * 6 + j, none⟩ = (cell6 rs[i])[j]? := fun j hj => by
    rw [h.cellAt (i * 6 + j) (by omega), recCells_at rs i j hi hj]
  exact ⟨hc 0 (by omega), hc 1 (by omega), hc 2 (by omega), hc 3 (by omega), hc 4 (by omega), hc 5 (by omega)⟩

def txn (id other : ByteArray) (e : Ent) : ByteArray := if e.sel % 2 = 1 then other else id
def recsOf (id other : ByteArray) (es : List Ent) : List (ByteArray × Ent) := es.map fun e => (txn id other e, e)

theorem news_at (w : World) (o : Obj) (p : ByteArray × Ent) (j : Nat) (u : Value) (h : (cell6 p)[j]? = some u) :
    ((w.alloc o).alloc (.cells #[.pointer none, .string p.1, .string p.2.part, .int .u64 p.2.pr, .int .u64 p.2.ac, .string p.2.val] 37)).cell? ((⟨w.heap.size + 1, 0, none⟩ : Addr).add j) = some u := by
  rw [show (⟨w.heap.size + 1, 0, none⟩ : Addr).add j = ⟨w.heap.size + 1, j, none⟩ by rw [WideShapes.add_plain, Nat.zero_add], World.cell?_alloc_at (hn := by simp), ← h]
  simp [cell6]
theorem one_cell6 (p : ByteArray × Ent) : ∀ u ∈ cell6 p, u.oneCell' = true := by
  intro u hu
  simp only [cell6, List.mem_cons, List.not_mem_nil, or_false] at hu
  rcases hu with rfl | rfl | rfl | rfl | rfl | rfl <;> rfl
theorem recs_snoc (id other : ByteArray) (es : List Ent) (k : Nat) (h : k < es.length) : recCells (recsOf id other (es.take (k + 1))) = recCells (recsOf id other (es.take k)) ++ cell6 (txn id other es[k], es[k]) := by
  rw [List.take_succ_eq_append_getElem h]
  unfold recCells recsOf
  rw [List.map_append, List.flatMap_append]
  simp

theorem new_n (nm : ByteArray) (g n cap : Nat) (rs : List (ByteArray × Ent)) (w : World) (hn : rs.length = n) (hr : Recs w g rs) (hg : g < w.heap.size) (hl : n ≤ 4096) :
    Calls Yba.prog 4 #[.string nm, .slice (some ⟨g, 0, none⟩) n cap] w fun e w' => e = .returned (.pointer (some ⟨w.heap.size + 1 + 1, 0, none⟩)) ∧
      ∃ bo S, State w' w.heap.size (w.heap.size + 1 + 1) bo S ∧ (∀ k, cont S k = conts rs k) ∧ w'.cell? ⟨w.heap.size + 1 + 1, 0, none⟩ = some (.string nm) ∧ Below w.heap.size w w' := by
  subst hn
  exact new_any nm g cap rs w hr hg hl
theorem nodup_put {α : Type} {l : List (ByteArray × α)} (k : ByteArray) (v : α) (h : (keys l).Nodup) : (keys (put l k v)).Nodup := by
  have hp := (put_perm k v h).map (·.1)
  refine (hp.nodup_iff).2 ?_
  rw [List.map_append]
  refine List.nodup_append.2 ⟨?_, by simp, ?_⟩
  · have hs : ((l.filter fun p => decide (p.1 ≠ k)).map (·.1)).Sublist (l.map (·.1)) := List.filter_sublist.map _
    exact List.Nodup.sublist hs h
  · intro a ha b hb e
    subst e
    simp only [List.map_cons, List.map_nil, List.mem_singleton] at hb
    subst hb
    obtain ⟨p, hp, hk⟩ := List.mem_map.1 ha
    rw [List.mem_filter] at hp
    have := hp.2
    simp [hk] at this
theorem kept_recs (id other : ByteArray) (es : List Ent) (hne : other ≠ id) : ∀ k, k ≤ es.length → Kept (conts (recsOf id other (es.take k)) id) (es.take k)
  | 0, _ => Kept.start
  | k + 1, hk => by
    have ih := kept_recs id other es hne k (by omega)
    have hlt : k < es.length := by omega
    rw [List.take_succ_eq_append_getElem hlt]
    have e1 : recsOf id other (es.take k ++ [es[k]]) = recsOf id other (es.take k) ++ [(txn id other es[k], es[k])] := by unfold recsOf; rw [List.map_append]; rfl
    rw [e1, conts_snoc]
    by_cases ho : es[k].sel % 2 = 1
    · have ht : txn id other es[k] = other := by unfold txn; rw [if_pos ho]
      rw [ht, if_neg hne]
      exact ih.odd _ (by unfold evn; rw [ho]; rfl)
    · have ht : txn id other es[k] = id := by unfold txn; rw [if_neg ho]
      rw [ht, if_pos rfl]
      have h0 : es[k].sel % 2 = 0 := by omega
      exact ih.even _ (by unfold evn; rw [h0]; rfl) (nodup_put _ _ ih.1)
theorem kept_all {id other : ByteArray} (es : List Ent) (hne : other ≠ id) : Kept (conts (recsOf id other es) id) es := by
  have := kept_recs id other es hne es.length (Nat.le_refl _)
  rwa [List.take_length] at this
theorem fin_drop_yes {es : List Ent} {k : Nat} (h : k < es.length) (hf : isFin es k = true) : fin (es.drop k) = es[k] :: fin (es.drop (k + 1)) := by
  rw [List.drop_eq_getElem_cons h, fin, if_pos (by rw [← isFin_at h]; exact hf)]
theorem fin_drop_no {es : List Ent} {k : Nat} (h : k < es.length) (hf : isFin es k = false) : fin (es.drop k) = fin (es.drop (k + 1)) := by
  rw [List.drop_eq_getElem_cons h, fin, if_neg (by rw [← isFin_at h, hf]; simp)]
theorem Ents.below {w w' : World} {b off B : Nat} {es : List Ent} (h : Ents w b off es) (hb : Below B w w') (hlt : b < B) : Ents w' b off es := fun i hi => by
  obtain ⟨h0, h1, h2, h3, h4, r⟩ := h i hi
  exact ⟨(hb.cell hlt).trans h0, (hb.cell hlt).trans h1, (hb.cell hlt).trans h2, (hb.cell hlt).trans h3, (hb.cell hlt).trans h4, r⟩
/-- 'len(m)' at the operation. -/
theorem wpList_len {P : Program} {ops : Array Oper} {rest : List Oper} {o : Oper} {a : Act} {Q : Exit → Act → World → Prop} {w : World} (hg : o.guard = none) (m : Operand) {t kt e : TypeId} (hop : o.op = Op.call { callee := Callee.builtin Builtin.len, args := #[m], argTypes := #[t] })
    (ht : P.underlying t = some (.map kt e)) (b : Nat) (l : List (ByteArray × Value)) (hm : a.eval m = .map (some b)) (hH : Holds w b l) (h : wpList P ops Q rest (a.put o.dst (.int .i64 l.length)) w) : wpList P ops Q (o :: rest) a w := by
  refine wpList_plain hg fun K' hK' => ?_
  have hrun := run_len hH ht o.type
  unfold Oper.wp
  simp [execOp, hop, resolve, invoke, builtin, hm, hrun, Result.andThen]
  exact hK' _ _ h
theorem append_x_ne (id : ByteArray) : id ++ ⟨#[120]⟩ ≠ id := by
  intro h
  have := congrArg ByteArray.size h
  rw [ByteArray.size_append] at this
  have h2 : (⟨#[120]⟩ : ByteArray).size = 1 := rfl
  omega

set_option maxHeartbeats 2000000 in
set_option maxRecDepth 100000 in
theorem law_any (nm id : ByteArray) (b off cap : Nat) (es : List Ent) (w : World) (h : Ents w b off es) (hb : b < w.heap.size) (hid' : id.size ≤ 140737488351232) (hl : es.length ≤ 4096) :
    Calls Yba.prog 3 #[.string nm, .string id, .slice (some ⟨b, off, none⟩) es.length cap] w fun e w' => e = .returned (.bool true) ∧ Below w.heap.size w w' := by
  obtain ⟨i0, hi, hz0, hz1, hz2⟩ := info_parts Yba.info37
  have hl' : (es.length : Int) ≤ 4096 := by omega
  obtain ⟨other, hoth, hadd⟩ : ∃ o : ByteArray, Hid (o = id ++ ⟨#[120]⟩) ∧ ∀ w, (Op.stringOp .add id ⟨#[120]⟩).run Yba.prog w = .ok (.string o) w :=
    ⟨_, hid rfl, fun w => run_string_add_sum w id ⟨#[120]⟩ (by show id.size + 1 ≤ _; omega)⟩
  go_enter Yba.func3, Yba.ntmps3
  go_wp2_with (at_make; refine wpList_make_own _ rfl _ _ 23 rfl w.heap.size 37 i0 _ 6 Yba.underlying23 hi hz0 hz1 _ _ _ es.length rfl rfl rfl ?_ ?_ ?_ ?_)
  · rw [hz2]; omega
  · unfold maxLen; omega
  · omega
  intro wm hown hgr
  have HB0 : Hid (Below w.heap.size w wm) := (Below.refl _ _).grown hgr (Nat.le_refl _) (fun _ h => by cases h)
  have HO0 := hid hown
  clear hown hgr
  go_wp2
  go_loopw [8, 33] (fun v j wr => ∃ k : Nat, k ≤ es.length ∧ j = .int .i64 k ∧ v = .slice (some ⟨w.heap.size, 0, none⟩) k es.length ∧ wr.ownsRow w.heap.size 37 6 (.slice (some ⟨w.heap.size, 0, none⟩) k es.length) k (recCells (recsOf id other (es.take k))) ∧ Below w.heap.size w wr)
    (fun _ j _ => es.length - (intOf j).toNat)
  case atStart => exact ⟨0, Nat.zero_le _, rfl, rfl, HO0.out, HB0.out⟩
  case round =>
    obtain ⟨k, hk, rfl, rfl, hown, hbel⟩ := hrel
    have HO := hid hown
    have HB := hid hbel
    clear hown hbel
    by_cases hlt : k < es.length
    · have hsz := HB.out.size
      obtain ⟨c0, c1, c2, c3, c4, s0, s1, -, -⟩ := h k hlt
      have d0 : wr.cell? ⟨b, off + k * 5, none⟩ = _ := (HB.out.cell (by exact hb)).trans c0
      have d1 : wr.cell? ⟨b, off + k * 5 + 1, none⟩ = _ := (HB.out.cell (by exact hb)).trans c1
      have d2 : wr.cell? ⟨b, off + k * 5 + 2, none⟩ = _ := (HB.out.cell (by exact hb)).trans c2
      have d3 : wr.cell? ⟨b, off + k * 5 + 3, none⟩ = _ := (HB.out.cell (by exact hb)).trans c3
      have d4 : wr.cell? ⟨b, off + k * 5 + 4, none⟩ = _ := (HB.out.cell (by exact hb)).trans c4
      have i1 : (0 : Int) ≤ (k : Int) := by omega
      have i2 : (k : Int) < (es.length : Int) := by omega
      clear c0 c1 c2 c3 c4
      cases ct : (es[k].sel % 2 == 1)
      · have HT : Hid (txn id other es[k] = id) := by
          show _ = _
          unfold txn
          rw [if_neg (by simpa using ct)]
        go_wp2_with (at_builtin; refine wpList_append_fits _ rfl _ _ 23 rfl w.heap.size 37 i0 6 Yba.underlying23 hi hz1 w.heap.size k es.length _ rfl ((HO.out.alloc _).alloc _) _ 1 1 (cell6 (id, es[k])) rfl rfl ?_ ?_ ?_ ?_)
        · exact news_at wr _ (id, es[k])
        · exact one_cell6 _
        · omega
        intro w2 hown2 hgr2
        have HO2 : Hid (w2.ownsRow w.heap.size 37 6 (.slice (some ⟨w.heap.size, 0, none⟩) (k + 1) es.length) (k + 1) (recCells (recsOf id other (es.take (k + 1))))) := by
          show _
          rw [recs_snoc id other es k hlt, HT.out]
          exact hown2
        have HB2 : Hid (Below w.heap.size w w2) := ((HB.out.alloc (by omega) _).alloc (by simp; omega) _).trans (below_map hgr2 (by simp; omega) (Nat.le_refl _))
        clear hown2 hgr2
        go_wp2
        go_roundw
        case rel => exact ⟨k + 1, by omega, by go_num, rfl, HO2.out, HB2.out⟩
        case measure => simp [intOf]; omega
      · have HT : Hid (txn id other es[k] = other) := by
          show _ = _
          unfold txn
          rw [if_pos (by simpa using ct)]
        go_wp2_with (at_builtin; refine wpList_append_fits _ rfl _ _ 23 rfl w.heap.size 37 i0 6 Yba.underlying23 hi hz1 w.heap.size k es.length _ rfl ((HO.out.alloc _).alloc _) _ 1 1 (cell6 (other, es[k])) rfl rfl ?_ ?_ ?_ ?_)
        · exact news_at wr _ (other, es[k])
        · exact one_cell6 _
        · omega
        intro w2 hown2 hgr2
        have HO2 : Hid (w2.ownsRow w.heap.size 37 6 (.slice (some ⟨w.heap.size, 0, none⟩) (k + 1) es.length) (k + 1) (recCells (recsOf id other (es.take (k + 1))))) := by
          show _
          rw [recs_snoc id other es k hlt, HT.out]
          exact hown2
        have HB2 : Hid (Below w.heap.size w w2) := ((HB.out.alloc (by omega) _).alloc (by simp; omega) _).trans (below_map hgr2 (by simp; omega) (Nat.le_refl _))
        clear hown2 hgr2
        go_wp2
        go_roundw
        case rel => exact ⟨k + 1, by omega, by go_num, rfl, HO2.out, HB2.out⟩
        case measure => simp [intOf]; omega
    · obtain rfl : k = es.length := by omega
      have hsz := HB.out.size
      have HR : Hid (Recs wr w.heap.size (recsOf id other es)) := recs_of (by have := HO.out; rwa [List.take_length] at this) (by simp [recsOf])
      have hrl : (recsOf id other es).length = es.length := by simp [recsOf]
      have HRL := hid hrl
      clear hrl
      go_wp2_with fail
      have hw := World.ownsRow.lt HO.out w.heap.size rfl
      refine (new_n nm w.heap.size es.length es.length (recsOf id other es) wr HRL.out HR.out hw.2 hl).mono ?_
      rintro e w2 ⟨rfl, bo, S, hst, hco, hnm, hb2⟩
      have HST := hid hst
      have HK : Hid (Kept (cont S id) es) := by
        show _
        rw [hco]
        exact kept_all es (by rw [hoth.out]; exact append_x_ne id)
      have HB2 : Hid (Below w.heap.size w w2) := HB.out.trans (hb2.mono hsz)
      have hsz2 := hb2.size
      have hac : ∀ e ∈ fin es, 0 ≤ e.ac := fun e he => by
        obtain ⟨i, hi', rfl⟩ := List.mem_iff_getElem.1 (fin_mem he).1
        exact (h i hi').2.2.2.2.2.2.2.2
      clear hst hco hb2 HO HR HRL HB
      go_wp2_with fail
      refine (acc_any wr.heap.size (wr.heap.size + 1 + 1) bo S (fin es) id nm w2 HST.out HK.out.2 hac hnm).mono ?_
      rintro e w3 ⟨hh, hh0, hhi, bv, V, rfl, hV, hVp, hb3, hbv⟩
      have HHI := hid hhi
      have HV := hid hV
      have HVP := hid hVp
      have HB3 := hid hb3
      have hsz3 := hb3.size
      clear hhi hV hVp hb3 hac
      have HBW : Hid (Below w.heap.size w (w3.alloc (.cells #[.string id, .string nm, .int .u64 hh, .map (some bv)] 42))) := (HB2.out.trans (HB3.out.mono (by omega))).alloc (by omega) _
      have HE := hid (h.below HBW.out hb)
      obtain ⟨wo, rfl⟩ : ∃ wo : World, wo = wr := ⟨_, rfl⟩
      go_wp2
      go_loopw [14, 15, 16] (fun v n j wr => ∃ (k m : Nat) (A : List Ent) (hv : Int), k ≤ es.length ∧ j = .int .i64 k ∧ n = .int .i64 A.length ∧ v = .int .u64 hv ∧ 0 ≤ hv ∧ A.length ≤ k ∧ IsHi said (·.ac) A hv ∧ fin es = A ++ fin (es.drop k) ∧ wr = (w3.alloc (.cells #[.string id, .string nm, .int .u64 hh, .map (some bv)] 42)).drewN m)
        (fun _ _ j _ => es.length - (intOf j).toNat)
      case atStart => exact ⟨0, 0, [], 0, Nat.zero_le _, rfl, rfl, rfl, Int.le_refl _, by simp, IsHi.nil, rfl, rfl⟩
      case round =>
        obtain ⟨k, m, A, hv, hk, rfl, rfl, rfl, hv0, hAk, hhi, hfin, rfl⟩ := hrel
        have HH := hid hhi
        have HFI := hid hfin
        clear hhi hfin
        by_cases hlt : k < es.length
        · obtain ⟨d0, d1, d2, d3, d4, s0, s1, s2, s3⟩ := HE.out k hlt
          have i1 : (0 : Int) ≤ (k : Int) := by omega
          have i2 : (k : Int) < (es.length : Int) := by omega
          go_wp2_with fail
          refine (final_any b off cap es k _ (by exact HE.out) hlt hl).mono ?_
          rintro e w4 ⟨rfl, n4, rfl⟩
          cases cf : isFin es k
          · have HF2 : Hid (fin es = A ++ fin (es.drop (k + 1))) := by show _ = _; rw [HFI.out, fin_drop_no hlt cf]
            go_wp2
            go_roundw
            case rel => exact ⟨k + 1, _, A, hv, by omega, by go_num, rfl, rfl, hv0, by omega, HH.out, HF2.out, rfl⟩
            case measure => simp [intOf]; omega
          · have HF2 : Hid (fin es = (A ++ [es[k]]) ++ fin (es.drop (k + 1))) := by show _ = _; rw [HFI.out, fin_drop_yes hlt cf]; simp
            cases cv : es[k].val.toList.isEmpty
            · by_cases hgt : hv < es[k].ac
              · have HH2 := hid (HH.out.more es[k] (by simp [said, cv]) (by omega))
                go_wp2
                go_roundw
                case rel => exact ⟨k + 1, _, A ++ [es[k]], es[k].ac, by omega, by go_num, by simp, rfl, s3, by simp; omega, HH2.out, HF2.out, rfl⟩
                case measure => simp [intOf]; omega
              · have HH2 := hid (HH.out.keep es[k] (by omega))
                go_wp2
                go_roundw
                case rel => exact ⟨k + 1, _, A ++ [es[k]], hv, by omega, by go_num, by simp, rfl, hv0, by simp; omega, HH2.out, HF2.out, rfl⟩
                case measure => simp [intOf]; omega
            · have HH2 := hid (HH.out.skip es[k] (by simp [said, cv]))
              go_wp2
              go_roundw
              case rel => exact ⟨k + 1, _, A ++ [es[k]], hv, by omega, by go_num, by simp, rfl, hv0, by simp; omega, HH2.out, HF2.out, rfl⟩
              case measure => simp [intOf]; omega
        · obtain rfl : k = es.length := by omega
          have HA : Hid (A = fin es) := by show _ = _; rw [HFI.out]; simp [fin]
          have heq : hh = hv := by
            have h1 := HH.out
            rw [HA.out] at h1
            exact HHI.out.unique h1 hh0 hv0
          subst heq
          have hmn := fun w r => run_eql_map_nil (P := Yba.prog) w 40 _ _ r Yba.underlying40
          have HFD : Hid (∀ e ∈ fin es, ∃ bi, get S id = some (bi, cont S id) ∧ get (cont S id) e.part = some (agg e)) := fun e he => by
            have hm : kv e ∈ cont S id := HK.out.2.mem_iff.2 (List.mem_map.2 ⟨e, he, rfl⟩)
            have hg := get_of_mem HK.out.1 (k := e.part) (v := agg e) hm
            cases hs : get S id with
            | none => simp [cont, hs] at hm
            | some q => exact ⟨q.1, by simp [cont, hs], hg⟩
          have HVG : Hid (∀ e ∈ fin es, inB hh e = true → get V e.part = some (.string e.val)) := fun e he hi => by
            refine get_of_mem HV.out.nodup (k := e.part) (v := .string e.val) (HVP.out.mem_iff.2 (List.mem_map.2 ⟨e, List.mem_filter.2 ⟨he, hi⟩, rfl⟩))
          have hob : bo < w2.heap.size := HST.out.out.lt
          have HBX : Hid (Below w2.heap.size w2 (w3.alloc (.cells #[.string id, .string nm, .int .u64 hh, .map (some bv)] 42))) := HB3.out.alloc hsz3 _
          have HVX : Hid (Holds (w3.alloc (.cells #[.string id, .string nm, .int .u64 hh, .map (some bv)] 42)) bv V) := HV.out.alloc _
          have hbvl : bv < w3.heap.size := HV.out.lt
          have HRX : Hid ((w3.alloc (.cells #[.string id, .string nm, .int .u64 hh, .map (some bv)] 42)).cell? ⟨w3.heap.size, 3, none⟩ = some (.map (some bv))) := by show _ = _; simp
          clear hnm
          go_wp2
          go_loopw [17, 18] (fun n j wr => ∃ (k : Nat) (A : List Ent), k ≤ es.length ∧ j = .int .i64 k ∧ n = .int .i64 (A.filter (inB hh)).length ∧ A.length ≤ k ∧ fin es = A ++ fin (es.drop k) ∧ Below (w3.heap.size + 1) (w3.alloc (.cells #[.string id, .string nm, .int .u64 hh, .map (some bv)] 42)) wr)
            (fun _ j _ => es.length - (intOf j).toNat)
          case atStart => exact ⟨0, [], Nat.zero_le _, rfl, rfl, by simp, rfl, below_drewN (Below.refl _ _) _⟩
          case round =>
            obtain ⟨k, C, hk, rfl, rfl, hCk, hfin, hbel⟩ := hrel
            have HF3 := hid hfin
            have HB4 := hid hbel
            have hsz4 := hbel.size
            simp only [World.size_alloc] at hsz4
            have hcl : (C.filter (inB hh)).length ≤ C.length := List.length_filter_le ..
            clear hfin hbel
            by_cases hlt : k < es.length
            · go_wp2_with fail
              refine (final_any b off cap es k _ (HE.out.below HB4.out (by omega)) hlt hl).mono ?_
              rintro e w4 ⟨rfl, n4, hw4⟩
              have HB5 : Hid (Below (w3.heap.size + 1) (w3.alloc (.cells #[.string id, .string nm, .int .u64 hh, .map (some bv)] 42)) w4) := by rw [hw4]; exact below_drewN HB4.out _
              have hsz5 : w3.heap.size + 1 ≤ w4.heap.size := by have := HB5.out.size; simpa using this
              clear hw4 HB4 hsz4
              cases cf : isFin es k
              · have HF2 : Hid (fin es = C ++ fin (es.drop (k + 1))) := by show _ = _; rw [HF3.out, fin_drop_no hlt cf]
                go_wp2
                go_roundw
                case rel => exact ⟨k + 1, C, by omega, by go_num, rfl, by omega, HF2.out, HB5.out⟩
                case measure => simp [intOf]; omega
              · have HF2 : Hid (fin es = (C ++ [es[k]]) ++ fin (es.drop (k + 1))) := by show _ = _; rw [HF3.out, fin_drop_yes hlt cf]; simp
                have hmem : es[k] ∈ fin es := by rw [HF2.out]; simp
                obtain ⟨bi, hgs, hgl⟩ := HFD.out es[k] hmem
                have HSW : Hid (State w4 wo.heap.size (wo.heap.size + 1 + 1) bo S) := HST.out.same fun q hq => (HB5.out.block q (by omega)).trans (HBX.out.block q hq)
                have HVW : Hid (Holds w4 bv V) := HVX.out.same (HB5.out.block bv (by omega))
                obtain ⟨d0, d1, d2, d3, d4, s0, s1, s2, s3⟩ := (HE.out.below HB5.out (by omega)) k hlt
                have hrc : w4.cell? ⟨w3.heap.size, 3, none⟩ = some (.map (some bv)) := (HB5.out.cell (by simp)).trans HRX.out
                have hac := HSW.out.cell
                have hal : wo.heap.size + 1 + 1 < w4.heap.size := World.block_lt_of_cell? w4 _ hac
                have hblt : b < w4.heap.size := by omega
                have i1 : (0 : Int) ≤ (k : Int) := by omega
                have i2 : (k : Int) < (es.length : Int) := by omega
                have hin := HSW.out.ins _ (get_mem hgs)
                have hl1 : ∀ o1 o2 n6, (Instr.lookup 46 (.map (some bo)) (.string id) false).run Yba.prog (((w4.alloc o1).alloc o2).drewN n6) = .ok (.map (some bi)) (((w4.alloc o1).alloc o2).drewN n6) := fun o1 o2 n6 => by
                  rw [HSW.out.lookup (same2 w4 o1 o2 n6 bo HSW.out.out.lt) id, hgs]
                have hl2 : ∀ o1 o2 n6, (Instr.lookup 45 (.map (some bi)) (.string es[k].part) false).run Yba.prog (((w4.alloc o1).alloc o2).drewN n6) = .ok (.agg #[.int .u64 es[k].pr, .int .u64 es[k].ac, .string es[k].val]) (((w4.alloc o1).alloc o2).drewN n6) := fun o1 o2 n6 => by
                  rw [run_lookup (P := Yba.prog) (hin.1.same (same2 w4 o1 o2 n6 bi hin.1.lt)) (t := 45) Yba.underlying45 Yba.underlying9 (z := .agg #[.int .u64 0, .int .u64 0, .string ⟨#[]⟩]) (by kernel_rfl) es[k].part false]
                  simp only [hgl]
                  rfl
                have hl3 : ∀ o1 o2 n6, (Instr.lookup 40 (.map (some bv)) (.string es[k].part) true).run Yba.prog (((w4.alloc o1).alloc o2).drewN n6) = .ok (.tuple #[(get V es[k].part).getD (.string ⟨#[]⟩), .bool (get V es[k].part).isSome]) (((w4.alloc o1).alloc o2).drewN n6) := fun o1 o2 n6 => by
                  rw [run_lookup (P := Yba.prog) (HVW.out.same (same2 w4 o1 o2 n6 bv HVW.out.lt)) (t := 40) Yba.underlying40 Yba.underlying9 (z := .string ⟨#[]⟩) (by kernel_rfl) es[k].part true]
                  rfl
                have hr2 : w3.heap.size < w4.heap.size := by omega
                have hr3 : w3.heap.size < w4.heap.size + 1 := by omega
                have ha3 : wo.heap.size + 1 + 1 < w4.heap.size + 1 := by omega
                have HG := hid (HVG.out es[k] hmem)
                have HB6 : ∀ o1 o2 n6, Hid (Below (w3.heap.size + 1) (w3.alloc (.cells #[.string id, .string nm, .int .u64 hh, .map (some bv)] 42)) (((w4.alloc o1).alloc o2).drewN n6)) := fun o1 o2 n6 => below_drewN ((HB5.out.alloc hsz5 _).alloc (by simp; omega) _) _
                clear hin hgs hgl hmem
                cases cv : es[k].val.toList.isEmpty
                · cases ce : es[k].ac == hh
                  · have HL : Hid (((C ++ [es[k]]).filter (inB hh)).length = (C.filter (inB hh)).length) := by show _ = _; rw [List.filter_append]; simp [inB, said, cv, ce]
                    go_wp2
                    go_quiet (fail)
                    go_wp2
                    go_roundw
                    case rel => exact ⟨k + 1, C ++ [es[k]], by omega, by go_num, by rw [HL.out], by simp; omega, HF2.out, (HB6 _ _ _).out⟩
                    case measure => simp [intOf]; omega
                  · have HL : Hid (((C ++ [es[k]]).filter (inB hh)).length = (C.filter (inB hh)).length + 1) := by show _ = _; rw [List.filter_append]; simp [inB, said, cv, ce]
                    have hgv := HG.out (by simp [inB, said, cv, ce])
                    rw [hgv] at hl3
                    clear hgv
                    simp only [Option.getD_some, Option.isSome_some] at hl3
                    go_wp2
                    go_quiet (fail)
                    go_wp2
                    go_roundw
                    case rel => exact ⟨k + 1, C ++ [es[k]], by omega, by go_num, by rw [HL.out]; go_num, by simp; omega, HF2.out, (HB6 _ _ _).out⟩
                    case measure => simp [intOf]; omega
                · have HL : Hid (((C ++ [es[k]]).filter (inB hh)).length = (C.filter (inB hh)).length) := by show _ = _; rw [List.filter_append]; simp [inB, said, cv]
                  go_wp2
                  go_quiet (fail)
                  go_wp2
                  go_roundw
                  case rel => exact ⟨k + 1, C ++ [es[k]], by omega, by go_num, by rw [HL.out], by simp; omega, HF2.out, (HB6 _ _ _).out⟩
                  case measure => simp [intOf]; omega
            · obtain rfl : k = es.length := by omega
              have HC : Hid (C = fin es) := by show _ = _; rw [HF3.out]; simp [fin]
              have HVW : Hid (Holds wr bv V) := HVX.out.same (HB4.out.block bv (by omega))
              have HSW : Hid (State wr wo.heap.size (wo.heap.size + 1 + 1) bo S) := HST.out.same fun q hq => (HB4.out.block q (by omega)).trans (HBX.out.block q hq)
              have hrc : wr.cell? ⟨w3.heap.size, 3, none⟩ = some (.map (some bv)) := (HB4.out.cell (by simp)).trans HRX.out
              have hac := HSW.out.cell
              have hVl : V.length = (C.filter (inB hh)).length := by
                have := HVP.out.length_eq
                rw [HC.out, this, List.length_map]
              have hSl : (cont S id).length = A.length := by
                have := HK.out.2.length_eq
                rw [HA.out, this, List.length_map]
              have HVl := hid hVl
              have HSl := hid hSl
              clear hVl hSl
              have HBF : Hid (Below w.heap.size w wr) := HBW.out.trans (HB4.out.mono (by omega))
              have hne : ((V.length : Int) != ((C.filter (inB hh)).length : Int)) = false := by rw [HVl.out]; simp
              cases hgs : get S id with
              | none =>
                have hl1 : (Instr.lookup 46 (.map (some bo)) (.string id) false).run Yba.prog wr = .ok (.map none) wr := by rw [HSW.out.lookup rfl id, hgs]
                have hA0 : ((0 : Int) == (A.length : Int)) = true := by rw [← HSl.out]; simp [cont, hgs]
                clear hgs
                go_wp2_with (at_len; refine wpList_len rfl _ rfl Yba.underlying40 bv V rfl HVW.out ?_)
                go_ret
                exact ⟨rfl, HBF.out⟩
              | some q =>
                have hin := HSW.out.ins _ (get_mem hgs)
                have HIN := hid hin.1
                have hl1 : (Instr.lookup 46 (.map (some bo)) (.string id) false).run Yba.prog wr = .ok (.map (some q.1)) wr := by rw [HSW.out.lookup rfl id, hgs]
                have hA0 : ((q.2.length : Int) == (A.length : Int)) = true := by rw [← HSl.out]; simp [cont, hgs]
                clear hgs hin
                go_wp2_with (first | (at_len; refine wpList_len rfl (.tmp 179) rfl Yba.underlying40 bv V rfl HVW.out ?_) | (at_len; refine wpList_len rfl (.tmp 188) rfl Yba.underlying45 q.1 q.2 rfl HIN.out ?_))
                go_ret
                exact ⟨rfl, HBF.out⟩
end Go.Proofs.Ybulkehhy.Walks
