/-
  LawS6677AWhole (f3): the walk.
-/
import Derived.Test.YbulkehgiLawH
namespace Go.Proofs.Ybulkehgi.LawA
open Go.RowKit Fold Strs Spell SM Car Srt Vals ReadF Model Ph Flip LawH

set_option maxRecDepth 100000 in
set_option maxHeartbeats 4000000 in
theorem law_any (kd : Int) (n1 n2 : ByteArray) (ao : Option Addr) (cap : Nat) (es : List Ent) (w : World) (hk0 : 0 ≤ kd) (hk1 : kd ≤ 255) (hn1 : n1.size ≤ 140737488355328) (hn2 : n2.size ≤ 140737488355328) (hl : es.length ≤ 4096)
    (hE : ∀ i (h : i < es.length), ∃ b off, ao = some ⟨b, off, none⟩ ∧ EntAt w b off i es[i]) :
    Calls Yba.prog 3 #[.int .u8 kd, .string n1, .string n2, .slice ao es.length cap] w fun e w' => e = .returned (.bool true) ∧ Below w.heap.size w w' := by
  obtain ⟨i9, hi9, hz90, hz91, hz92⟩ := info_parts Yba.rowInfo9
  obtain ⟨i23, hi23, hz230, hz231, hz232⟩ := info_parts Yba.rowInfo23
  have HE := hid hE
  clear hE
  go_enter Yba.func3, Yba.ntmps3
  go_wp2
  go_loopw [9, 10] (fun t i wr => ∃ k : Nat, k ≤ es.length ∧ i = .int .i64 k ∧ t = .int .i64 (sumN (es.take k)) ∧ sumN (es.take k) ≤ k * 8796093022208 ∧ w = wr) (fun _ i _ => es.length - (intOf i).toNat)
  case atStart => exact ⟨0, Nat.zero_le _, rfl, rfl, by simp [sumN], rfl⟩
  case round =>
    obtain ⟨k, hk, rfl, rfl, hsum, rfl⟩ := hrel
    by_cases hlt : k < es.length
    · obtain ⟨b, off, rfl, he⟩ := HE.out k hlt
      have c3 := he.c3
      have hv := he.vs
      have hst := sum_take es k hlt
      have HST := hid hst
      clear he hst
      go_wp2
      go_roundw
      case rel => exact ⟨k + 1, by omega, by go_num, by rw [HST.out]; go_num, by rw [HST.out]; omega, trivial⟩
      case measure => simp [intOf]; omega
    · obtain rfl : k = es.length := by omega
      rw [List.take_length] at hsum
      rw [List.take_length]
      by_cases hbig : 65536 < sumN es
      · go_wp2
        go_ret
        exact ⟨rfl, Below.refl _ _⟩
      · go_wp2
        go_loopw [11, 12, 13] (fun ks vs i wr' => ∃ k : Nat, k ≤ es.length ∧ i = .int .i64 k ∧ ∃ V kv, Phase w ks vs V kv wr' ∧ kv.length ≤ k ∧ (kv = [] → ks = .slice none 0 0)) (fun _ _ i _ => es.length - (intOf i).toNat)
        case atStart => exact ⟨0, Nat.zero_le _, rfl, [], [], Phase.start _ _ (Below.refl _ _), Nat.le_refl _, fun _ => rfl⟩
        case round =>
          obtain ⟨k, hk', rfl, V, kv, hph, hkv, hnil⟩ := hrel
          obtain ⟨aok, ck, aov, cv, rfl, rfl⟩ := phase_cells hph
          by_cases hlt' : k < es.length
          · clear hnil
            obtain ⟨b, off, rfl, he⟩ := HE.out k hlt'
            have hbs := hph.below.size
            have d0 := (hph.below.cell he.lt).trans he.c0
            have d1 := (hph.below.cell he.lt).trans he.c1
            have d2 := (hph.below.cell he.lt).trans he.c2
            have d3 := (hph.below.cell he.lt).trans he.c3
            have hp0 := he.p0
            have hp1 := he.p1
            have hm0 := he.m0
            have hm1 := he.m1
            have HEK := hid he
            have HPH := hid hph
            clear hph he
            go_wp2_with fail
            · refine (flip_any n1 es[k].mask _ hn1 hm0 hm1).mono ?_
              rintro e w1 ⟨⟨kk, rfl, hkz⟩, hb1⟩
              have c3 : w1.cell? ⟨wr.heap.size, 3, none⟩ = some (.slice es[k].vo es[k].vn es[k].vc) := (hb1.cell (by simp)).trans (by rw [World.cell?_alloc_at (hn := rfl)]; rfl)
              have hb2 : Below wr.heap.size wr w1 := ((Below.refl _ wr).alloc (Nat.le_refl _) _).trans (hb1.mono (by simp))
              have hkz2 : kk.size ≤ 140737488355328 := by omega
              have HB2 := hid hb2
              clear hb1 hb2 hkz d0 d1 d2 d3
              go_wp2_with fail
              have hsl : Sl w1 es[k].vo es[k].vn es[k].ss := Sl.below (HEK.out.sl) (HPH.out.below.trans (HB2.out.mono hbs))
              have hvn : es[k].vn ≤ 65536 := by have := sum_at es k hlt'; omega
              refine (clone_any _ _ _ es[k].ss w1 hsl (by omega)).mono ?_
              rintro e w2 ⟨v, rfl, hv, hvnil, hb3⟩
              have hb4 : Below wr.heap.size wr w2 := HB2.out.trans (hb3.mono HB2.out.size)
              have hph2 := HPH.out.beyond hb4
              have hfr : Fresh w (.slice aok kv.length ck) v (vlOf es[k].vo es[k].ss) w2 := Fresh.of (HPH.out.beyond HB2.out) (by rw [strs_vlOf hsl]; exact hv) (by rw [hvnil, vlOf_none])
              have hvl : (strs (vlOf es[k].vo es[k].ss)).length ≤ 65536 := by rw [strs_vlOf hsl, hsl.1]; exact hvn
              obtain ⟨avv, nvv, cvv, rfl⟩ := slice_of_row hv
              have HPH2 := hid hph2
              have HFR := hid hfr
              have HVL := hid hvl
              clear hsl hv hvnil hb3 hb4 hph2 hfr hvl HB2 HPH HEK
              go_wp2
              go_loopw [17, 18] (fun jv t wr' => ∃ q : Nat, q ≤ kv.length ∧ jv = .int .i64 (-1) ∧ t = .int .i64 q ∧ (∀ x (hx : x < kv.length), x < q → kv[x].1 ≠ kk) ∧ w2 = wr') (fun _ t _ => kv.length - (intOf t).toNat)
              case atStart => exact ⟨0, Nat.zero_le _, rfl, rfl, fun x _ h => by omega, rfl⟩
              case round =>
                obtain ⟨q, hq, rfl, rfl, hnf, rfl⟩ := hrel
                have HNF := hid hnf
                clear hnf
                by_cases hql : q < kv.length
                · obtain ⟨gk, rfl, ckq⟩ := phase_key HPH2.out q hql
                  by_cases hkq : kv[q].1 = kk
                  · have tq : (kv[q].1.toList == kk.toList) = true := by rw [hkq]; exact beq_self_eq_true _
                    obtain ⟨gv, rfl, cvq, fvq⟩ := phase_val HPH2.out q (by rw [HPH2.out.len]; exact hql)
                    have HSET := hid (HPH2.out.set HFR.out hql HVL.out)
                    clear HNF HFR hkq
                    go_wp2
                    exact ⟨⟨k + 1, by omega, by go_num, _, _, HSET.out, by simp; omega, fun e => absurd (congrArg List.length e) (by simp only [List.length_set, List.length_nil]; omega)⟩, by simp [intOf]; omega⟩
                  · have tq : (kv[q].1.toList == kk.toList) = false := str_ne hkq
                    go_wp2
                    go_roundw
                    case rel => exact ⟨q + 1, by omega, rfl, by go_num, fun x hx hxq => by
                      by_cases e : x = q
                      · subst e; exact hkq
                      · exact HNF.out x hx (by omega), trivial⟩
                    case measure => simp [intOf]; omega
                · have hnk : kk ∉ keys kv := fun hm => by
                    obtain ⟨p, hp, e⟩ := List.mem_map.1 hm
                    obtain ⟨x, hx, e2⟩ := List.getElem_of_mem hp
                    exact HNF.out x hx (by omega) (by rw [e2]; exact e)
                  have hone : Row (w2.alloc (.cells #[.string kk] 9)) 0 9 (.slice (some ⟨w2.heap.size, 0, none⟩) 1 1) [.string kk] := Row.lit w2 0 9 #[.string kk] (Nat.zero_le _) (by simp [maxLen])
                  have hr1 : Row (w2.alloc (.cells #[.string kk] 9)) w.heap.size 9 (.slice aok kv.length ck) ((keys kv).map Value.string) := (HPH2.out.beyond ((Below.refl _ w2).alloc (Nat.le_refl _) _)).rk
                  have hkl : ((keys kv).map Value.string).length = kv.length := by simp [keys]
                  have hb1 : ((keys kv).map Value.string).length + [Value.string kk].length ≤ maxLen := by rw [hkl]; simp only [maxLen, List.length_singleton]; omega
                  have hb2 : (((keys kv).map Value.string).length + [Value.string kk].length) * 16 ≤ 140737488355328 := by rw [hkl]; simp only [List.length_singleton]; omega
                  have hb3 : w.heap.size ≤ (w2.alloc (.cells #[.string kk] 9)).heap.size := by have := HPH2.out.below.size; simp; omega
                  have HO1 := hid hone
                  have HR1 := hid hr1
                  have HB1 := hid hb1
                  have HB2' := hid hb2
                  have HB3 := hid hb3
                  have HNK := hid hnk
                  clear hone hr1 hkl hb1 hb2 hb3 hnk HNF
                  go_wp2_with (at_builtin; refine wpList_app rfl _ _ 23 rfl w.heap.size 9 i9 _ 16 Yba.underlying23 hi9 hz90 hz91 hz92 rfl (.slice aok kv.length ck) (.slice (some ⟨w2.heap.size, 0, none⟩) 1 1) rfl rfl _ _ HR1.out HO1.out (cells_strs [kk]) HB1.out HB2'.out HB3.out ?_)
                  intro ks' w3 hr3 hg3 _ hp3
                  have hhalf := HPH2.out.half HFR.out hg3 hr3 (by rcases hp3 with h | h; exact .inl h; exact .inr fun b hb => by have := h b hb; omega)
                  obtain ⟨aok', nk', ck', rfl⟩ := slice_of_row hr3
                  have HHA := hid hhalf
                  have hone : Row (w3.alloc (.cells #[.slice avv nvv cvv] 23)) 0 23 (.slice (some ⟨w3.heap.size, 0, none⟩) 1 1) [.slice avv nvv cvv] := Row.lit w3 0 23 #[.slice avv nvv cvv] (Nat.zero_le _) (by simp [maxLen])
                  have hr1 : Row (w3.alloc (.cells #[.slice avv nvv cvv] 23)) w.heap.size 23 (.slice aov kv.length cv) V := hhalf.rv.beyond ((Below.refl _ w3).alloc (Nat.le_refl _) _)
                  have hb1 : V.length + [Value.slice avv nvv cvv].length ≤ maxLen := by rw [hhalf.len]; simp only [maxLen, List.length_singleton]; omega
                  have hb2 : (V.length + [Value.slice avv nvv cvv].length) * 24 ≤ 140737488355328 := by rw [hhalf.len]; simp only [List.length_singleton]; omega
                  have hb3 : w.heap.size ≤ (w3.alloc (.cells #[.slice avv nvv cvv] 23)).heap.size := by have := hhalf.below.size; simp; omega
                  have h1c : ∀ u ∈ [Value.slice avv nvv cvv], u.oneCell' = true := fun u hu => by rw [List.mem_singleton.1 hu]; rfl
                  have HO2 := hid hone
                  have HR2 := hid hr1
                  have HC1 := hid hb1
                  have HC2 := hid hb2
                  have HC3 := hid hb3
                  clear hone hr1 hb1 hb2 hb3 hr3 hg3 hp3 hhalf HPH2 HFR
                  go_wp2_with (at_builtin; refine wpList_app rfl _ _ 26 rfl w.heap.size 23 i23 _ 24 Yba.underlying26 hi23 hz230 hz231 hz232 rfl (.slice aov kv.length cv) (.slice (some ⟨w3.heap.size, 0, none⟩) 1 1) rfl rfl _ _ HR2.out HO2.out h1c HC1.out HC2.out HC3.out ?_)
                  intro vs' w4 hr4 hg4 _ _
                  have HWH := hid (HHA.out.whole hg4 hr4 HNK.out hkz2 HVL.out)
                  clear hr4 hg4
                  go_wp2
                  exact ⟨⟨k + 1, by omega, by go_num, _, _, HWH.out, by simp; omega, fun e => by simp at e⟩, by simp [intOf]; omega⟩
            · refine (flip_any n2 es[k].mask _ hn2 hm0 hm1).mono ?_
              rintro e w1 ⟨⟨kk, rfl, hkz⟩, hb1⟩
              have c3 : w1.cell? ⟨wr.heap.size, 3, none⟩ = some (.slice es[k].vo es[k].vn es[k].vc) := (hb1.cell (by simp)).trans (by rw [World.cell?_alloc_at (hn := rfl)]; rfl)
              have hb2 : Below wr.heap.size wr w1 := ((Below.refl _ wr).alloc (Nat.le_refl _) _).trans (hb1.mono (by simp))
              have hkz2 : kk.size ≤ 140737488355328 := by omega
              have HB2 := hid hb2
              clear hb1 hb2 hkz d0 d1 d2 d3
              go_wp2_with fail
              have hsl : Sl w1 es[k].vo es[k].vn es[k].ss := Sl.below (HEK.out.sl) (HPH.out.below.trans (HB2.out.mono hbs))
              have hvn : es[k].vn ≤ 65536 := by have := sum_at es k hlt'; omega
              refine (clone_any _ _ _ es[k].ss w1 hsl (by omega)).mono ?_
              rintro e w2 ⟨v, rfl, hv, hvnil, hb3⟩
              have hb4 : Below wr.heap.size wr w2 := HB2.out.trans (hb3.mono HB2.out.size)
              have hph2 := HPH.out.beyond hb4
              have hfr : Fresh w (.slice aok kv.length ck) v (vlOf es[k].vo es[k].ss) w2 := Fresh.of (HPH.out.beyond HB2.out) (by rw [strs_vlOf hsl]; exact hv) (by rw [hvnil, vlOf_none])
              have hvl : (strs (vlOf es[k].vo es[k].ss)).length ≤ 65536 := by rw [strs_vlOf hsl, hsl.1]; exact hvn
              obtain ⟨avv, nvv, cvv, rfl⟩ := slice_of_row hv
              have HPH2 := hid hph2
              have HFR := hid hfr
              have HVL := hid hvl
              clear hsl hv hvnil hb3 hb4 hph2 hfr hvl HB2 HPH HEK
              go_wp2
              go_loopw [17, 18] (fun jv t wr' => ∃ q : Nat, q ≤ kv.length ∧ jv = .int .i64 (-1) ∧ t = .int .i64 q ∧ (∀ x (hx : x < kv.length), x < q → kv[x].1 ≠ kk) ∧ w2 = wr') (fun _ t _ => kv.length - (intOf t).toNat)
              case atStart => exact ⟨0, Nat.zero_le _, rfl, rfl, fun x _ h => by omega, rfl⟩
              case round =>
                obtain ⟨q, hq, rfl, rfl, hnf, rfl⟩ := hrel
                have HNF := hid hnf
                clear hnf
                by_cases hql : q < kv.length
                · obtain ⟨gk, rfl, ckq⟩ := phase_key HPH2.out q hql
                  by_cases hkq : kv[q].1 = kk
                  · have tq : (kv[q].1.toList == kk.toList) = true := by rw [hkq]; exact beq_self_eq_true _
                    obtain ⟨gv, rfl, cvq, fvq⟩ := phase_val HPH2.out q (by rw [HPH2.out.len]; exact hql)
                    have HSET := hid (HPH2.out.set HFR.out hql HVL.out)
                    clear HNF HFR hkq
                    go_wp2
                    exact ⟨⟨k + 1, by omega, by go_num, _, _, HSET.out, by simp; omega, fun e => absurd (congrArg List.length e) (by simp only [List.length_set, List.length_nil]; omega)⟩, by simp [intOf]; omega⟩
                  · have tq : (kv[q].1.toList == kk.toList) = false := str_ne hkq
                    go_wp2
                    go_roundw
                    case rel => exact ⟨q + 1, by omega, rfl, by go_num, fun x hx hxq => by
                      by_cases e : x = q
                      · subst e; exact hkq
                      · exact HNF.out x hx (by omega), trivial⟩
                    case measure => simp [intOf]; omega
                · have hnk : kk ∉ keys kv := fun hm => by
                    obtain ⟨p, hp, e⟩ := List.mem_map.1 hm
                    obtain ⟨x, hx, e2⟩ := List.getElem_of_mem hp
                    exact HNF.out x hx (by omega) (by rw [e2]; exact e)
                  have hone : Row (w2.alloc (.cells #[.string kk] 9)) 0 9 (.slice (some ⟨w2.heap.size, 0, none⟩) 1 1) [.string kk] := Row.lit w2 0 9 #[.string kk] (Nat.zero_le _) (by simp [maxLen])
                  have hr1 : Row (w2.alloc (.cells #[.string kk] 9)) w.heap.size 9 (.slice aok kv.length ck) ((keys kv).map Value.string) := (HPH2.out.beyond ((Below.refl _ w2).alloc (Nat.le_refl _) _)).rk
                  have hkl : ((keys kv).map Value.string).length = kv.length := by simp [keys]
                  have hb1 : ((keys kv).map Value.string).length + [Value.string kk].length ≤ maxLen := by rw [hkl]; simp only [maxLen, List.length_singleton]; omega
                  have hb2 : (((keys kv).map Value.string).length + [Value.string kk].length) * 16 ≤ 140737488355328 := by rw [hkl]; simp only [List.length_singleton]; omega
                  have hb3 : w.heap.size ≤ (w2.alloc (.cells #[.string kk] 9)).heap.size := by have := HPH2.out.below.size; simp; omega
                  have HO1 := hid hone
                  have HR1 := hid hr1
                  have HB1 := hid hb1
                  have HB2' := hid hb2
                  have HB3 := hid hb3
                  have HNK := hid hnk
                  clear hone hr1 hkl hb1 hb2 hb3 hnk HNF
                  go_wp2_with (at_builtin; refine wpList_app rfl _ _ 23 rfl w.heap.size 9 i9 _ 16 Yba.underlying23 hi9 hz90 hz91 hz92 rfl (.slice aok kv.length ck) (.slice (some ⟨w2.heap.size, 0, none⟩) 1 1) rfl rfl _ _ HR1.out HO1.out (cells_strs [kk]) HB1.out HB2'.out HB3.out ?_)
                  intro ks' w3 hr3 hg3 _ hp3
                  have hhalf := HPH2.out.half HFR.out hg3 hr3 (by rcases hp3 with h | h; exact .inl h; exact .inr fun b hb => by have := h b hb; omega)
                  obtain ⟨aok', nk', ck', rfl⟩ := slice_of_row hr3
                  have HHA := hid hhalf
                  have hone : Row (w3.alloc (.cells #[.slice avv nvv cvv] 23)) 0 23 (.slice (some ⟨w3.heap.size, 0, none⟩) 1 1) [.slice avv nvv cvv] := Row.lit w3 0 23 #[.slice avv nvv cvv] (Nat.zero_le _) (by simp [maxLen])
                  have hr1 : Row (w3.alloc (.cells #[.slice avv nvv cvv] 23)) w.heap.size 23 (.slice aov kv.length cv) V := hhalf.rv.beyond ((Below.refl _ w3).alloc (Nat.le_refl _) _)
                  have hb1 : V.length + [Value.slice avv nvv cvv].length ≤ maxLen := by rw [hhalf.len]; simp only [maxLen, List.length_singleton]; omega
                  have hb2 : (V.length + [Value.slice avv nvv cvv].length) * 24 ≤ 140737488355328 := by rw [hhalf.len]; simp only [List.length_singleton]; omega
                  have hb3 : w.heap.size ≤ (w3.alloc (.cells #[.slice avv nvv cvv] 23)).heap.size := by have := hhalf.below.size; simp; omega
                  have h1c : ∀ u ∈ [Value.slice avv nvv cvv], u.oneCell' = true := fun u hu => by rw [List.mem_singleton.1 hu]; rfl
                  have HO2 := hid hone
                  have HR2 := hid hr1
                  have HC1 := hid hb1
                  have HC2 := hid hb2
                  have HC3 := hid hb3
                  clear hone hr1 hb1 hb2 hb3 hr3 hg3 hp3 hhalf HPH2 HFR
                  go_wp2_with (at_builtin; refine wpList_app rfl _ _ 26 rfl w.heap.size 23 i23 _ 24 Yba.underlying26 hi23 hz230 hz231 hz232 rfl (.slice aov kv.length cv) (.slice (some ⟨w3.heap.size, 0, none⟩) 1 1) rfl rfl _ _ HR2.out HO2.out h1c HC1.out HC2.out HC3.out ?_)
                  intro vs' w4 hr4 hg4 _ _
                  have HWH := hid (HHA.out.whole hg4 hr4 HNK.out hkz2 HVL.out)
                  clear hr4 hg4
                  go_wp2
                  exact ⟨⟨k + 1, by omega, by go_num, _, _, HWH.out, by simp; omega, fun e => by simp at e⟩, by simp [intOf]; omega⟩
            · obtain ⟨w1, ew⟩ : ∃ w1, wr.alloc (.cells #[.int .u8 es[k].pick, .int .u8 es[k].mask, .string es[k].key, .slice es[k].vo es[k].vn es[k].vc] 25) = w1 := ⟨_, rfl⟩
              rw [ew]
              have hb2 : Below wr.heap.size wr w1 := by rw [← ew]; exact (Below.refl _ wr).alloc (Nat.le_refl _) _
              obtain ⟨kk, hkk⟩ : ∃ kk, es[k].key = kk := ⟨_, rfl⟩
              have hkz2 : kk.size ≤ 140737488355328 := by rw [← hkk]; exact HEK.out.ks
              rw [hkk]
              have HB2 := hid hb2
              clear hb2 ew hkk d0 d1 d2 d3
              have hsl : Sl w1 es[k].vo es[k].vn es[k].ss := Sl.below (HEK.out.sl) (HPH.out.below.trans (HB2.out.mono hbs))
              have hvn : es[k].vn ≤ 65536 := by have := sum_at es k hlt'; omega
              refine (clone_any _ _ _ es[k].ss w1 hsl (by omega)).mono ?_
              rintro e w2 ⟨v, rfl, hv, hvnil, hb3⟩
              have hb4 : Below wr.heap.size wr w2 := HB2.out.trans (hb3.mono HB2.out.size)
              have hph2 := HPH.out.beyond hb4
              have hfr : Fresh w (.slice aok kv.length ck) v (vlOf es[k].vo es[k].ss) w2 := Fresh.of (HPH.out.beyond HB2.out) (by rw [strs_vlOf hsl]; exact hv) (by rw [hvnil, vlOf_none])
              have hvl : (strs (vlOf es[k].vo es[k].ss)).length ≤ 65536 := by rw [strs_vlOf hsl, hsl.1]; exact hvn
              obtain ⟨avv, nvv, cvv, rfl⟩ := slice_of_row hv
              have HPH2 := hid hph2
              have HFR := hid hfr
              have HVL := hid hvl
              clear hsl hv hvnil hb3 hb4 hph2 hfr hvl HB2 HPH HEK
              go_wp2
              go_loopw [17, 18] (fun jv t wr' => ∃ q : Nat, q ≤ kv.length ∧ jv = .int .i64 (-1) ∧ t = .int .i64 q ∧ (∀ x (hx : x < kv.length), x < q → kv[x].1 ≠ kk) ∧ w2 = wr') (fun _ t _ => kv.length - (intOf t).toNat)
              case atStart => exact ⟨0, Nat.zero_le _, rfl, rfl, fun x _ h => by omega, rfl⟩
              case round =>
                obtain ⟨q, hq, rfl, rfl, hnf, rfl⟩ := hrel
                have HNF := hid hnf
                clear hnf
                by_cases hql : q < kv.length
                · obtain ⟨gk, rfl, ckq⟩ := phase_key HPH2.out q hql
                  by_cases hkq : kv[q].1 = kk
                  · have tq : (kv[q].1.toList == kk.toList) = true := by rw [hkq]; exact beq_self_eq_true _
                    obtain ⟨gv, rfl, cvq, fvq⟩ := phase_val HPH2.out q (by rw [HPH2.out.len]; exact hql)
                    have HSET := hid (HPH2.out.set HFR.out hql HVL.out)
                    clear HNF HFR hkq
                    go_wp2
                    exact ⟨⟨k + 1, by omega, by go_num, _, _, HSET.out, by simp; omega, fun e => absurd (congrArg List.length e) (by simp only [List.length_set, List.length_nil]; omega)⟩, by simp [intOf]; omega⟩
                  · have tq : (kv[q].1.toList == kk.toList) = false := str_ne hkq
                    go_wp2
                    go_roundw
                    case rel => exact ⟨q + 1, by omega, rfl, by go_num, fun x hx hxq => by
                      by_cases e : x = q
                      · subst e; exact hkq
                      · exact HNF.out x hx (by omega), trivial⟩
                    case measure => simp [intOf]; omega
                · have hnk : kk ∉ keys kv := fun hm => by
                    obtain ⟨p, hp, e⟩ := List.mem_map.1 hm
                    obtain ⟨x, hx, e2⟩ := List.getElem_of_mem hp
                    exact HNF.out x hx (by omega) (by rw [e2]; exact e)
                  have hone : Row (w2.alloc (.cells #[.string kk] 9)) 0 9 (.slice (some ⟨w2.heap.size, 0, none⟩) 1 1) [.string kk] := Row.lit w2 0 9 #[.string kk] (Nat.zero_le _) (by simp [maxLen])
                  have hr1 : Row (w2.alloc (.cells #[.string kk] 9)) w.heap.size 9 (.slice aok kv.length ck) ((keys kv).map Value.string) := (HPH2.out.beyond ((Below.refl _ w2).alloc (Nat.le_refl _) _)).rk
                  have hkl : ((keys kv).map Value.string).length = kv.length := by simp [keys]
                  have hb1 : ((keys kv).map Value.string).length + [Value.string kk].length ≤ maxLen := by rw [hkl]; simp only [maxLen, List.length_singleton]; omega
                  have hb2 : (((keys kv).map Value.string).length + [Value.string kk].length) * 16 ≤ 140737488355328 := by rw [hkl]; simp only [List.length_singleton]; omega
                  have hb3 : w.heap.size ≤ (w2.alloc (.cells #[.string kk] 9)).heap.size := by have := HPH2.out.below.size; simp; omega
                  have HO1 := hid hone
                  have HR1 := hid hr1
                  have HB1 := hid hb1
                  have HB2' := hid hb2
                  have HB3 := hid hb3
                  have HNK := hid hnk
                  clear hone hr1 hkl hb1 hb2 hb3 hnk HNF
                  go_wp2_with (at_builtin; refine wpList_app rfl _ _ 23 rfl w.heap.size 9 i9 _ 16 Yba.underlying23 hi9 hz90 hz91 hz92 rfl (.slice aok kv.length ck) (.slice (some ⟨w2.heap.size, 0, none⟩) 1 1) rfl rfl _ _ HR1.out HO1.out (cells_strs [kk]) HB1.out HB2'.out HB3.out ?_)
                  intro ks' w3 hr3 hg3 _ hp3
                  have hhalf := HPH2.out.half HFR.out hg3 hr3 (by rcases hp3 with h | h; exact .inl h; exact .inr fun b hb => by have := h b hb; omega)
                  obtain ⟨aok', nk', ck', rfl⟩ := slice_of_row hr3
                  have HHA := hid hhalf
                  have hone : Row (w3.alloc (.cells #[.slice avv nvv cvv] 23)) 0 23 (.slice (some ⟨w3.heap.size, 0, none⟩) 1 1) [.slice avv nvv cvv] := Row.lit w3 0 23 #[.slice avv nvv cvv] (Nat.zero_le _) (by simp [maxLen])
                  have hr1 : Row (w3.alloc (.cells #[.slice avv nvv cvv] 23)) w.heap.size 23 (.slice aov kv.length cv) V := hhalf.rv.beyond ((Below.refl _ w3).alloc (Nat.le_refl _) _)
                  have hb1 : V.length + [Value.slice avv nvv cvv].length ≤ maxLen := by rw [hhalf.len]; simp only [maxLen, List.length_singleton]; omega
                  have hb2 : (V.length + [Value.slice avv nvv cvv].length) * 24 ≤ 140737488355328 := by rw [hhalf.len]; simp only [List.length_singleton]; omega
                  have hb3 : w.heap.size ≤ (w3.alloc (.cells #[.slice avv nvv cvv] 23)).heap.size := by have := hhalf.below.size; simp; omega
                  have h1c : ∀ u ∈ [Value.slice avv nvv cvv], u.oneCell' = true := fun u hu => by rw [List.mem_singleton.1 hu]; rfl
                  have HO2 := hid hone
                  have HR2 := hid hr1
                  have HC1 := hid hb1
                  have HC2 := hid hb2
                  have HC3 := hid hb3
                  clear hone hr1 hb1 hb2 hb3 hr3 hg3 hp3 hhalf HPH2 HFR
                  go_wp2_with (at_builtin; refine wpList_app rfl _ _ 26 rfl w.heap.size 23 i23 _ 24 Yba.underlying26 hi23 hz230 hz231 hz232 rfl (.slice aov kv.length cv) (.slice (some ⟨w3.heap.size, 0, none⟩) 1 1) rfl rfl _ _ HR2.out HO2.out h1c HC1.out HC2.out HC3.out ?_)
                  intro vs' w4 hr4 hg4 _ _
                  have HWH := hid (HHA.out.whole hg4 hr4 HNK.out hkz2 HVL.out)
                  clear hr4 hg4
                  go_wp2
                  exact ⟨⟨k + 1, by omega, by go_num, _, _, HWH.out, by simp; omega, fun e => by simp at e⟩, by simp [intOf]; omega⟩
          · obtain rfl : k = es.length := by omega
            have hkvl : kv.length ≤ 4096 := by omega
            have hmk := fun n w => run_makeMap_hint Yba.underlying33 n w
            have hmk2 := fun n w => run_makeMap_hint Yba.underlying35 n w
            obtain ⟨W1, ew⟩ : ∃ W1, W1 = wr := ⟨_, rfl⟩
            subst ew
            have hW := hph.below.size
            have HPH := hid hph
            have HNL := hid hnil
            clear hph HE hnil
            have h3 : kd % 3 = 0 ∨ kd % 3 = 1 ∨ kd % 3 = 2 := by omega
            rcases h3 with hm | hm | hm
            · go_wp2_with fail
              simp only [hm]
              have hh0 : Hdr w (.slice aok kv.length ck) (.slice aov kv.length cv) V kv W1.heap.size 0 (W1.alloc (.map #[] 0)) := ⟨HPH.out.beyond ((Below.refl _ W1).alloc (Nat.le_refl _) _), [], Holds.made W1, by simp [keys], fun x hx => by simp at hx⟩
              have HH0 := hid hh0
              clear hh0
              go_loopw [26] (fun iv wr => ∃ i : Nat, i ≤ kv.length ∧ iv = .int .i64 i ∧ Hdr w (.slice aok kv.length ck) (.slice aov kv.length cv) V kv W1.heap.size i wr) (fun iv _ => kv.length - (intOf iv).toNat)
              case atStart => exact ⟨0, Nat.zero_le _, rfl, HH0.out⟩
              case round =>
                obtain ⟨i, hi, rfl, hhd⟩ := hrel
                obtain ⟨hph, l, hHo, hkl, hin⟩ := hhd
                by_cases hil : i < kv.length
                · obtain ⟨gk, rfl, cki⟩ := phase_key hph i hil
                  have hiV : i < V.length := by rw [hph.len]; exact hil
                  obtain ⟨gv, rfl, cvi, _⟩ := phase_val hph i hiV
                  have hcl := clone_laidH hil hiV hph hHo hkl hin cki hW
                  obtain ⟨Vi, hVi⟩ : ∃ Vi, V[i] = Vi := ⟨_, rfl⟩
                  obtain ⟨ki, hki⟩ : ∃ ki, kv[i].1 = ki := ⟨_, rfl⟩
                  rw [hVi, hki] at hcl
                  rw [hVi] at cvi
                  rw [hki] at cki
                  have HCL := hid hcl
                  clear hcl hph hHo hVi hki hkl hin
                  go_wp2
                  go_region_with (go_at_call 8; go_loud (refine HCL.out.mono ?_; rintro e w2 ⟨v, w4, rfl, cki2, hup, hhd⟩; have HHD := hid hhd; clear hhd))
                  all_goals
                    go_wp2
                    go_roundw
                    case rel => exact ⟨i + 1, by omega, by go_num, HHD.out⟩
                    case measure => simp [intOf]; omega
                · obtain rfl : i = kv.length := by omega
                  have hcar := Hdr.car ⟨hph, l, hHo, hkl, hin⟩
                  have hread := readH wr wr.heap.size W1.heap.size n1 n2 kv hcar (Nat.le_refl _) ⟨hkvl, hph.each⟩ (fun q hq => Nat.le_trans (hph.size q hq) (by decide))
                  have HRD := hid hread
                  have HP1 := hid hph
                  have HCA := hid hcar
                  clear hread hph hHo hkl hin hcar
                  go_wp2_with fail
                  refine HRD.out.mono ?_
                  rintro e w2 ⟨r1, r2, rfl, g1, g1n, g2, g2n, hkp⟩
                  have hb2 := keeps_below hkp
                  have hph2 := HP1.out.beyond hb2
                  have HSZ := hid hb2.size
                  have hca2 : CarH w2 wr.heap.size W1.heap.size kv := HCA.out.same hb2.block
                  have HCA2 := hid hca2
                  clear hkp hb2 hca2
                  have HPH2 := hid hph2
                  have HG1 := hid g1
                  have HG2 := hid g2
                  have HN1 := hid g1n
                  have HN2 := hid g2n
                  have hm1 := model_any w2 _ _ V kv n1 ⟨#[]⟩ false (hph2.mod hkvl)
                  rw [want1_eq] at hm1
                  have HM1 := hid hm1
                  clear g1 g2 g1n g2n hm1 hph2
                  go_wp2_with fail
                  refine HM1.out.mono ?_
                  rintro e w3 ⟨m1, rfl, x1, x1n, hb3⟩
                  have hm2 := model_any w3 _ _ V kv n2 n1 true ((HPH2.out.beyond hb3).mod hkvl)
                  rw [want2_eq] at hm2
                  have HM2 := hid hm2
                  have HX1 := hid x1
                  have HX1N := hid x1n
                  have HB3 := hid hb3
                  clear x1 x1n hb3 hm2
                  go_wp2_with fail
                  refine HM2.out.mono ?_
                  rintro e w4 ⟨m2, rfl, x2, x2n, hb4⟩
                  have hfour : Four r1 r2 m1 m2 (resOf kv (notes1 n1 (keys kv))) (resOf kv (notes2 n1 n2 (keys kv))) w4 := ⟨(HG1.out.row.beyond HB3.out).beyond hb4, (HG2.out.row.beyond HB3.out).beyond hb4, HX1.out.row.beyond hb4, x2, HN1.out.trans HX1N.out.symm, HN2.out.trans x2n.symm⟩
                  have hb24 := HB3.out.trans (hb4.mono HB3.out.size)
                  have HFO := hid hfour
                  have HB24 := hid hb24
                  clear hfour hb24 x2 x2n hb4
                  go_wp2_with fail
                  refine (eq_same r1 m1 _ w4 HFO.out.r1 HFO.out.s1 HFO.out.n1).mono ?_
                  rintro e w5 ⟨rfl, hd5⟩
                  have hfo5 := HFO.out.beyond (hd5.below _)
                  have HFO5 := hid hfo5
                  have HD5 := hid hd5
                  clear hfo5 hd5
                  go_wp2_with fail
                  refine (eq_same r2 m2 _ w5 HFO5.out.r2 HFO5.out.s2 HFO5.out.n2).mono ?_
                  rintro e w6 ⟨rfl, hd6⟩
                  have hb6 : Below w2.heap.size w2 w6 := HB24.out.trans (((HD5.out.below _).trans (hd6.below _)).mono HB24.out.size)
                  have hph6 := HPH2.out.beyond hb6
                  have hcar6 : CarH w6 wr.heap.size W1.heap.size kv := HCA2.out.same fun k hk => hb6.block k (by have := HSZ.out; omega)
                  obtain ⟨l6, hl6, hll6⟩ := CarH.len hcar6
                  have HL6 := hid hl6
                  have HP6 := hid hph6
                  have HC6 := hid hcar6
                  clear hb6 hd6 hl6 hcar6 hph6 HM1 HM2 HX1 HX1N HB3 HFO HB24 HFO5 HD5 HG1 HG2 HN1 HN2
                  go_wp2_with (at_len; refine wpList_len rfl _ rfl Yba.underlying33 _ l6 rfl HL6.out _ hll6 ?_)
                  go_loopw [33, 34, 35] (fun iv _ _ wr' => ∃ i : Nat, i ≤ kv.length ∧ iv = .int .i64 i ∧ Phase w (.slice aok kv.length ck) (.slice aov kv.length cv) V kv wr' ∧ CarH wr' wr.heap.size W1.heap.size kv) (fun iv _ _ _ => kv.length - (intOf iv).toNat)
                  case atStart => exact ⟨0, Nat.zero_le _, rfl, HP6.out, HC6.out⟩
                  case round =>
                    obtain ⟨i, hi, rfl, hph7, hcar7⟩ := hrel
                    by_cases hil : i < kv.length
                    · obtain ⟨gk, rfl, cki⟩ := phase_key hph7 i hil
                      have hiV : i < V.length := by rw [hph7.len]; exact hil
                      obtain ⟨gv, rfl, cvi, _⟩ := phase_val hph7 i hiV
                      obtain ⟨v, hlook, hinn⟩ := CarH.look hcar7 hph7.nodup i hil
                      have hinn2 := hph7.inn i hil hiV
                      have heq := eq_same v V[i] _ wr hinn.row hinn2.row (hinn.isNil.trans hinn2.isNil.symm)
                      obtain ⟨Vi, hVi⟩ : ∃ Vi, V[i] = Vi := ⟨_, rfl⟩
                      obtain ⟨ki, hki⟩ : ∃ ki, kv[i].1 = ki := ⟨_, rfl⟩
                      rw [hVi] at cvi heq
                      rw [hki] at cki hlook
                      have HEQ := hid heq
                      have HP7 := hid hph7
                      have HC7 := hid hcar7
                      clear hph7 hcar7 heq hVi hki hinn hinn2
                      go_wp2_with fail
                      refine HEQ.out.mono ?_
                      rintro e w7 ⟨rfl, hd7⟩
                      have hp8 := HP7.out.beyond (hd7.below _)
                      have hc8 := HC7.out.same (hd7.below _).block
                      have HP8 := hid hp8
                      have HC8 := hid hc8
                      clear hd7 hp8 hc8
                      go_wp2
                      go_roundw
                      case rel => exact ⟨i + 1, by omega, by go_num, HP8.out, HC8.out⟩
                      case measure => simp [intOf]; omega
                    · obtain rfl : i = kv.length := by omega
                      have HB7 := hid hph7.below
                      clear hph7 hcar7
                      go_wp2
                      go_ret
                      exact ⟨rfl, HB7.out⟩
            · generalize hnk : kv.length = nk at *
              go_wp2_with fail
              simp only [hm]
              go_loopw [20, 21] (fun iv _ wr => ∃ i : Nat, i ≤ nk ∧ iv = .int .i64 i ∧ ∃ V' kv', Phase w (.slice aok nk ck) (.slice aov nk cv) V' kv' wr ∧ List.length kv' = nk ∧ Ones kv' i) (fun iv _ _ => nk - (intOf iv).toNat)
              case atStart => exact ⟨0, Nat.zero_le _, rfl, V, kv, HPH.out, hnk, fun x _ h => absurd h (by omega)⟩
              case round =>
                obtain ⟨i, hi, rfl, V', kv', hph1, hkl1, hone⟩ := hrel
                by_cases hil : i < nk
                · have hil' : i < List.length kv' := by omega
                  have hiV : i < V'.length := by rw [hph1.len]; exact hil'
                  obtain ⟨gv, rfl, cvi, fvi⟩ := phase_val hph1 i hiV
                  have hinn := hph1.inn i hil' hiV
                  have hlen := hph1.each kv'[i] (List.getElem_mem hil')
                  rcases hinn.row.shape with ⟨eV, es0⟩ | ⟨g1, c1, eV, _, _, _, _, hcs⟩
                  · rw [eV] at cvi
                    have hst := fun s => Phase.one' hph1 hil' (World.block_lt_of_cell? wr _ cvi) s
                    have HST := hid hst
                    have HON := hid hone
                    have hgv : gv < wr.heap.size := World.block_lt_of_cell? wr _ cvi
                    clear hph1 hinn hst hone eV
                    go_wp2
                    exact ⟨⟨i + 1, by omega, by go_num, _, _, HST.out _, by simp [hkl1], HON.out.set hil' _⟩, by simp [intOf]; omega⟩
                  · rw [eV] at cvi
                    have hst := fun s => Phase.one' hph1 hil' (World.block_lt_of_cell? wr _ cvi) s
                    have HST := hid hst
                    have HON := hid hone
                    by_cases h0 : (strs kv'[i].2).length = 0
                    · rw [h0] at cvi
                      have hgv : gv < wr.heap.size := World.block_lt_of_cell? wr _ cvi
                      clear hph1 hinn hst hone eV hcs
                      go_wp2
                      exact ⟨⟨i + 1, by omega, by go_num, _, _, HST.out _, by simp [hkl1], HON.out.set hil' _⟩, by simp [intOf]; omega⟩
                    · have h0' : 0 < (strs kv'[i].2).length := by omega
                      have cs0 := hcs 0 h0'
                      obtain ⟨s0, hs0⟩ : ∃ s, (strs kv'[i].2)[0] = s := ⟨_, rfl⟩
                      rw [hs0] at cs0
                      obtain ⟨ln, hln⟩ : ∃ n, (strs kv'[i].2).length = n := ⟨_, rfl⟩
                      rw [hln] at cvi h0' hlen
                      have hgv : gv < wr.heap.size := World.block_lt_of_cell? wr _ cvi
                      clear hph1 hinn hst hone eV hcs hs0 h0 hln
                      go_wp2
                      exact ⟨⟨i + 1, by omega, by go_num, _, _, HST.out _, by simp [hkl1], HON.out.set hil' _⟩, by simp [intOf]; omega⟩
                · obtain rfl : i = nk := by omega
                  subst hkl1
                  obtain ⟨W2, ew⟩ : ∃ W2, W2 = wr := ⟨_, rfl⟩
                  subst ew
                  have hW2 : w.heap.size ≤ W2.heap.size := hph1.below.size
                  have hh0 : MapC w (.slice aok (List.length kv') ck) (.slice aov (List.length kv') cv) V' kv' W2.heap.size 0 (W2.alloc (.map #[] 0)) := ⟨hph1.beyond ((Below.refl _ W2).alloc (Nat.le_refl _) _), [], Holds.made W2, by simp [keys], fun x hx => by simp at hx⟩
                  have HH0 := hid hh0
                  have HON := hid hone
                  clear hh0 hph1 hone HPH HNL
                  go_wp2_with fail
                  go_loopw [27] (fun iv wr => ∃ i : Nat, i ≤ List.length kv' ∧ iv = .int .i64 i ∧ MapC w (.slice aok (List.length kv') ck) (.slice aov (List.length kv') cv) V' kv' W2.heap.size i wr) (fun iv _ => List.length kv' - (intOf iv).toNat)
                  case atStart => exact ⟨0, Nat.zero_le _, rfl, HH0.out⟩
                  case round =>
                    obtain ⟨i, hi, rfl, hmc⟩ := hrel
                    obtain ⟨hph, l, hHo, hkl, hin⟩ := hmc
                    by_cases hil : i < List.length kv'
                    · obtain ⟨gk, rfl, cki⟩ := phase_key hph i hil
                      have hiV : i < V'.length := by rw [hph.len]; exact hil
                      obtain ⟨gv, rfl, cvi, _⟩ := phase_val hph i hiV
                      have hinn := hph.inn i hil hiV
                      obtain ⟨s0, hs0⟩ := HON.out i hil hil
                      obtain ⟨g1, c1, eV, cs0⟩ := inn_one (hs0 ▸ hinn)
                      rw [eV] at cvi
                      have hd : Below wr.heap.size wr wr.drew := (Below.refl _ wr).drew
                      obtain ⟨w4, hup, hH4, hg4⟩ := run_update (P := Yba.prog) (t := 35) (hHo.below hd hHo.lt) Yba.underlying35 Yba.underlying9 kv'[i].1 (.string s0)
                      have hmc4 := MapC.laid hil (hHo.below hd hHo.lt) hkl hin (hph.beyond hd) hs0 hg4 hH4 hW2
                      obtain ⟨ki, hki⟩ : ∃ ki, kv'[i].1 = ki := ⟨_, rfl⟩
                      rw [hki] at cki hup
                      have HMC4 := hid hmc4
                      clear hph hHo hkl hin hinn hs0 eV hd hH4 hg4 hmc4 hki
                      go_wp2
                      go_region
                      all_goals
                        go_wp2
                        go_roundw
                        case rel => exact ⟨i + 1, by omega, by go_num, HMC4.out⟩
                        case measure => simp [intOf]; omega
                    · obtain rfl : i = List.length kv' := by omega
                      have hkvl' : List.length kv' ≤ 4096 := by omega
                      have hcar := MapC.car ⟨hph, l, hHo, hkl, hin⟩
                      have hread := readM wr wr.heap.size W2.heap.size n1 n2 kv' hcar (Nat.le_refl _) ⟨hkvl', hph.each⟩ (fun q hq => Nat.le_trans (hph.size q hq) (by decide))
                      have HRD := hid hread
                      have HP1 := hid hph
                      have HCA := hid hcar
                      clear hread hph hHo hkl hin hcar
                      go_wp2_with fail
                      refine HRD.out.mono ?_
                      rintro e w2 ⟨r1, r2, rfl, g1, g1n, g2, g2n, hkp⟩
                      have hb2 := keeps_below hkp
                      have hph2 := HP1.out.beyond hb2
                      have HSZ := hid hb2.size
                      have hca2 : CarM w2 wr.heap.size W2.heap.size kv' := HCA.out.same hb2.block
                      have HCA2 := hid hca2
                      clear hkp hb2 hca2
                      have HPH2 := hid hph2
                      have HG1 := hid g1
                      have HG2 := hid g2
                      have HN1 := hid g1n
                      have HN2 := hid g2n
                      have hm1 := model_any w2 _ _ V' kv' n1 ⟨#[]⟩ false (hph2.mod hkvl')
                      rw [want1_eq] at hm1
                      have HM1 := hid hm1
                      clear g1 g2 g1n g2n hm1 hph2
                      go_wp2_with fail
                      refine HM1.out.mono ?_
                      rintro e w3 ⟨m1, rfl, x1, x1n, hb3⟩
                      have hm2 := model_any w3 _ _ V' kv' n2 n1 true ((HPH2.out.beyond hb3).mod hkvl')
                      rw [want2_eq] at hm2
                      have HM2 := hid hm2
                      have HX1 := hid x1
                      have HX1N := hid x1n
                      have HB3 := hid hb3
                      clear x1 x1n hb3 hm2
                      go_wp2_with fail
                      refine HM2.out.mono ?_
                      rintro e w4 ⟨m2, rfl, x2, x2n, hb4⟩
                      have hfour : Four r1 r2 m1 m2 (resOf kv' (notes1 n1 (keys kv'))) (resOf kv' (notes2 n1 n2 (keys kv'))) w4 := ⟨(HG1.out.row.beyond HB3.out).beyond hb4, (HG2.out.row.beyond HB3.out).beyond hb4, HX1.out.row.beyond hb4, x2, HN1.out.trans HX1N.out.symm, HN2.out.trans x2n.symm⟩
                      have hb24 := HB3.out.trans (hb4.mono HB3.out.size)
                      have HFO := hid hfour
                      have HB24 := hid hb24
                      clear hfour hb24 x2 x2n hb4
                      go_wp2_with fail
                      refine (eq_same r1 m1 _ w4 HFO.out.r1 HFO.out.s1 HFO.out.n1).mono ?_
                      rintro e w5 ⟨rfl, hd5⟩
                      have hfo5 := HFO.out.beyond (hd5.below _)
                      have HFO5 := hid hfo5
                      have HD5 := hid hd5
                      clear hfo5 hd5
                      go_wp2_with fail
                      refine (eq_same r2 m2 _ w5 HFO5.out.r2 HFO5.out.s2 HFO5.out.n2).mono ?_
                      rintro e w6 ⟨rfl, hd6⟩
                      have hb6 : Below w2.heap.size w2 w6 := HB24.out.trans (((HD5.out.below _).trans (hd6.below _)).mono HB24.out.size)
                      have hph6 := HPH2.out.beyond hb6
                      have hcar6 : CarM w6 wr.heap.size W2.heap.size kv' := HCA2.out.same fun k hk => hb6.block k (by have := HSZ.out; omega)
                      obtain ⟨l6, hl6, hll6⟩ := CarM.len hcar6
                      have HL6 := hid hl6
                      have HP6 := hid hph6
                      have HC6 := hid hcar6
                      clear hb6 hd6 hl6 hcar6 hph6 HM1 HM2 HX1 HX1N HB3 HFO HB24 HFO5 HD5 HG1 HG2 HN1 HN2
                      go_wp2_with (at_len; refine wpList_len rfl _ rfl Yba.underlying35 _ l6 rfl HL6.out _ hll6 ?_)
                      go_loopw [36, 37, 38] (fun iv _ _ wr' => ∃ i : Nat, i ≤ List.length kv' ∧ iv = .int .i64 i ∧ Phase w (.slice aok (List.length kv') ck) (.slice aov (List.length kv') cv) V' kv' wr' ∧ CarM wr' wr.heap.size W2.heap.size kv') (fun iv _ _ _ => List.length kv' - (intOf iv).toNat)
                      case atStart => exact ⟨0, Nat.zero_le _, rfl, HP6.out, HC6.out⟩
                      case round =>
                        obtain ⟨i, hi, rfl, hph7, hcar7⟩ := hrel
                        by_cases hil : i < List.length kv'
                        · obtain ⟨gk, rfl, cki⟩ := phase_key hph7 i hil
                          have hiV : i < V'.length := by rw [hph7.len]; exact hil
                          obtain ⟨gv, rfl, cvi, _⟩ := phase_val hph7 i hiV
                          obtain ⟨s0, hlook, hs0⟩ := CarM.look hcar7 hph7.nodup i hil
                          have hinn := hph7.inn i hil hiV
                          obtain ⟨g1, c1, eV, cs0⟩ := inn_one (hs0 ▸ hinn)
                          rw [eV] at cvi
                          obtain ⟨ki, hki⟩ : ∃ ki, kv'[i].1 = ki := ⟨_, rfl⟩
                          rw [hki] at cki hlook
                          have HP7 := hid hph7
                          have HC7 := hid hcar7
                          clear hph7 hcar7 hki hinn hs0 eV
                          go_wp2
                          go_roundw
                          case rel => exact ⟨i + 1, by omega, by go_num, HP7.out, HC7.out⟩
                          case measure => simp [intOf]; omega
                        · obtain rfl : i = List.length kv' := by omega
                          have HB7 := hid hph7.below
                          clear hph7 hcar7
                          go_wp2
                          go_ret
                          exact ⟨rfl, HB7.out⟩
            · go_wp2_with fail
              simp only [hm]
              refine (clone_keys HPH.out hkvl).mono ?_
              rintro e W2 ⟨kc, rfl, hkc, hkn, hbk⟩
              have hown0 := Own.start (HPH.out.beyond hbk) hkc hkn
              obtain ⟨kao, kln, kcp, rfl⟩ := slice_of_row hkc.row
              have HO0 := hid hown0
              clear hown0 hkc hkn hbk
              go_wp2_with fail
              go_loopw [28] (fun iv wr => ∃ i : Nat, i ≤ kv.length ∧ iv = .int .i64 i ∧ ∃ vv Vc, Own w (.slice aok kv.length ck) (.slice aov kv.length cv) V kv W2.heap.size (.slice kao kln kcp) vv Vc wr ∧ Vc.length = i) (fun iv _ => kv.length - (intOf iv).toNat)
              case atStart => exact ⟨0, Nat.zero_le _, rfl, _, _, HO0.out, rfl⟩
              case round =>
                obtain ⟨i, hi, rfl, vv, Vc, hown, hvl⟩ := hrel
                by_cases hil : i < kv.length
                · have hiV : i < V.length := by rw [hown.ph.len]; exact hil
                  obtain ⟨gv, rfl, cvi, _⟩ := phase_val hown.ph i hiV
                  obtain ⟨c1, f1⟩ := hown.cells
                  have hcl := clone_laidO hown i hvl.symm hil hiV hkvl
                  obtain ⟨Vi, hVi⟩ : ∃ Vi, V[i] = Vi := ⟨_, rfl⟩
                  rw [hVi] at hcl cvi
                  have HCL := hid hcl
                  clear hcl hown hVi
                  go_wp2
                  go_region_law (first | (refine step_app_eq rfl _ _ 26 rfl _ _ rfl rfl happ ?_) | (go_simp; go_at_call 8; refine HCL.out.mono ?_; rintro e w2 ⟨vo, vn, vc, xo, xn, xc, w4, rfl, c12, hlt2, happ, c14, f14, ho⟩; have HO := hid ho; clear ho))
                  all_goals
                    go_wp2
                    go_roundw
                    case rel => exact ⟨i + 1, by omega, by go_num, _, _, HO.out, by simp [hvl]⟩
                    case measure => simp [intOf]; omega
                · obtain rfl : i = kv.length := by omega
                  have hcar := hown.car hvl HNL.out
                  have hread := readO wr wr.heap.size W2.heap.size n1 n2 kv hcar (Nat.le_refl _) ⟨hkvl, hown.ph.each⟩ (fun q hq => Nat.le_trans (hown.ph.size q hq) (by decide))
                  have HRD := hid hread
                  have HOW := hid hown
                  clear hread hown hcar
                  go_wp2_with fail
                  refine HRD.out.mono ?_
                  rintro e w2 ⟨⟨r1, r2, rfl, g1, g1n, g2, g2n, hkp⟩, hca2⟩
                  have hph2 := HOW.out.read hkp
                  have HSZ := hid hkp.size
                  have HCA2 := hid hca2
                  clear hkp hca2
                  have HPH2 := hid hph2
                  have HG1 := hid g1
                  have HG2 := hid g2
                  have HN1 := hid g1n
                  have HN2 := hid g2n
                  have hm1 := model_any w2 _ _ V kv n1 ⟨#[]⟩ false (hph2.mod hkvl)
                  rw [want1_eq] at hm1
                  have HM1 := hid hm1
                  clear g1 g2 g1n g2n hm1 hph2
                  go_wp2_with fail
                  refine HM1.out.mono ?_
                  rintro e w3 ⟨m1, rfl, x1, x1n, hb3⟩
                  have hm2 := model_any w3 _ _ V kv n2 n1 true ((HPH2.out.beyond hb3).mod hkvl)
                  rw [want2_eq] at hm2
                  have HM2 := hid hm2
                  have HX1 := hid x1
                  have HX1N := hid x1n
                  have HB3 := hid hb3
                  clear x1 x1n hb3 hm2
                  go_wp2_with fail
                  refine HM2.out.mono ?_
                  rintro e w4 ⟨m2, rfl, x2, x2n, hb4⟩
                  have hfour : Four r1 r2 m1 m2 (resOf kv (notes1 n1 (keys kv))) (resOf kv (notes2 n1 n2 (keys kv))) w4 := ⟨(HG1.out.row.beyond HB3.out).beyond hb4, (HG2.out.row.beyond HB3.out).beyond hb4, HX1.out.row.beyond hb4, x2, HN1.out.trans HX1N.out.symm, HN2.out.trans x2n.symm⟩
                  have hb24 := HB3.out.trans (hb4.mono HB3.out.size)
                  have HFO := hid hfour
                  have HB24 := hid hb24
                  clear hfour hb24 x2 x2n hb4
                  go_wp2_with fail
                  refine (eq_same r1 m1 _ w4 HFO.out.r1 HFO.out.s1 HFO.out.n1).mono ?_
                  rintro e w5 ⟨rfl, hd5⟩
                  have hfo5 := HFO.out.beyond (hd5.below _)
                  have HFO5 := hid hfo5
                  have HD5 := hid hd5
                  clear hfo5 hd5
                  go_wp2_with fail
                  refine (eq_same r2 m2 _ w5 HFO5.out.r2 HFO5.out.s2 HFO5.out.n2).mono ?_
                  rintro e w6 ⟨rfl, hd6⟩
                  have hb6 : Below w2.heap.size w2 w6 := HB24.out.trans (((HD5.out.below _).trans (hd6.below _)).mono HB24.out.size)
                  have hph6 := HPH2.out.beyond hb6
                  have hcar6 : CarO w6 wr.heap.size W2.heap.size 1 kv := HCA2.out.same fun k hk => hb6.block k (by have := HSZ.out; omega)
                  obtain ⟨kc6, vv6, Vc6, hat⟩ := hcar6
                  have k0 := hat.c0
                  have k1 := hat.c1
                  have k2 := hat.c2
                  obtain ⟨ao6, cp6, e6, _⟩ := row_cells hat.rv
                  rw [hat.len] at e6
                  subst e6
                  have hkeq := eq_same kc6 (.slice aok kv.length ck) (keys kv) w6 hat.rk (hph6.rk.mono (Nat.zero_le _)) (own_nil hat hph6.rk HNL.out)
                  have HKQ := hid hkeq
                  have HP6 := hid hph6
                  have HA6 := hid hat
                  clear hb6 hd6 hat hph6 hkeq HM1 HM2 HX1 HX1N HB3 HFO HB24 HFO5 HD5 HG1 HG2 HN1 HN2
                  go_wp2_with fail
                  refine HKQ.out.mono ?_
                  rintro e w7 ⟨rfl, hd7⟩
                  have hp8 := HP6.out.beyond (hd7.below _)
                  have ha8 := HA6.out.same (hd7.below _).block
                  have k18 := ha8.c1
                  have HP8 := hid hp8
                  have HA8 := hid ha8
                  clear hd7 hp8 ha8
                  go_wp2
                  go_loopw [39] (fun iv wr' => ∃ i : Nat, i ≤ kv.length ∧ iv = .int .i64 i ∧ Phase w (.slice aok kv.length ck) (.slice aov kv.length cv) V kv wr' ∧ CarOat wr' wr.heap.size W2.heap.size 1 kv kc6 (.slice ao6 kv.length cp6) Vc6) (fun iv _ => kv.length - (intOf iv).toNat)
                  case atStart => exact ⟨0, Nat.zero_le _, rfl, HP8.out, HA8.out⟩
                  case round =>
                    obtain ⟨i, hi, rfl, hph9, hat9⟩ := hrel
                    by_cases hil : i < kv.length
                    · have hiV : i < V.length := by rw [hph9.len]; exact hil
                      have hiC : i < Vc6.length := by rw [hat9.len]; exact hil
                      obtain ⟨gv, rfl, cvi, _⟩ := phase_val hph9 i hiV
                      obtain ⟨gc, rfl, cci, _⟩ := row_at hat9.rv i hiC
                      have k1 := hat9.c1
                      have hinn := hat9.inn i hil hiC
                      have hinn2 := hph9.inn i hil hiV
                      have hdr : Below wr.heap.size wr wr.drew := (Below.refl _ wr).drew
                      have heq := eq_same Vc6[i] V[i] _ wr.drew (hinn.row.row.beyond hdr) (hinn2.row.row.beyond hdr) (hinn.isNil.trans hinn2.isNil.symm)
                      obtain ⟨Vi, hVi⟩ : ∃ Vi, V[i] = Vi := ⟨_, rfl⟩
                      obtain ⟨Ci, hCi⟩ : ∃ Ci, Vc6[i] = Ci := ⟨_, rfl⟩
                      rw [hVi] at cvi heq
                      rw [hCi] at cci heq
                      have HEQ := hid heq
                      have HP9 := hid hph9
                      have HA9 := hid hat9
                      clear hph9 hat9 heq hVi hCi hinn hinn2 hdr
                      go_wp2
                      go_region_with (go_at_call 12; refine HEQ.out.mono ?_; rintro e w9 ⟨rfl, hd9⟩; have HD9 := hid hd9; clear hd9)
                      all_goals
                        go_wp2
                        go_roundw
                        case rel => exact ⟨i + 1, by omega, by go_num, HP9.out.beyond (((Below.refl _ _).drew).trans (HD9.out.below _)), HA9.out.same fun k _ => ((HD9.out.below _).block k (Nat.lt_succ_self k)).trans rfl⟩
                        case measure => simp [intOf]; omega
                    · obtain rfl : i = kv.length := by omega
                      have HB9 := hid hph9.below
                      clear hph9 hat9
                      go_wp2
                      go_ret
                      exact ⟨rfl, HB9.out⟩

set_option maxRecDepth 100000 in
theorem law_big (kd : Int) (n1 n2 : ByteArray) (ao : Option Addr) (n cap : Nat) (w : World) (hl : 4096 < n) :
    Calls Yba.prog 3 #[.int .u8 kd, .string n1, .string n2, .slice ao n cap] w fun e w' => e = .returned (.bool true) ∧ Below w.heap.size w w' := by
  have hl' : (4096 : Int) < (n : Int) := by omega
  go_enter Yba.func3, Yba.ntmps3
  go_wp2
  go_ret
  exact ⟨rfl, Below.refl _ _⟩
end Go.Proofs.Ybulkehgi.LawA
