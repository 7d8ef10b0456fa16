import Derived.Test.YbulkehhyNew
import Derived.Deep.LoopGhost
namespace Go.Proofs.Ybulkehhy.Walks
open Go.RowKit Plain SM

def blank : Array Value := #[.string ⟨#[]⟩, .string ⟨#[]⟩, .int .u64 0, .map none]
theorem block_cells {w : World} {b : Nat} {t : TypeId} {xs : Array Value} (h : w.heap[b]? = some (.cells xs t (0, 0))) (i : Nat) : w.cell? ⟨b, i, none⟩ = xs[i]? ∧ w.frozen? ⟨b, i, none⟩ = false := by
  refine ⟨cell_of_row w b i xs t (0, 0) h, ?_⟩
  unfold World.frozen?
  rw [h]
  simp

theorem keyOf_pair {L : List (ByteArray × Value)} {F : List Ent} (hF : L.Perm (F.map kv)) {p : ByteArray × Value} (hp : p ∈ L) : ∃ e ∈ F, p = kv e := by
  obtain ⟨e, he, h⟩ := List.mem_map.1 (hF.mem_iff.1 hp)
  exact ⟨e, he, h.symm⟩

/-- What phase2b hands back. -/
def Phase (id nm : ByteArray) (h : Int) (F : List Ent) (w : World) (e : Ending) (w' : World) : Prop :=
  ∃ bv V, e = .returned (.agg #[.string id, .string nm, .int .u64 h, .map (some bv)]) ∧ Holds w' bv V ∧ V.Perm ((F.filter (inB h)).map vv) ∧ Below w.heap.size w w' ∧ w.heap.size ≤ bv

set_option maxHeartbeats 1000000 in
theorem phase_some (base a bo bi : Nat) (S : List (ByteArray × Inner)) (L : List (ByteArray × Value)) (F : List Ent) (id nm : ByteArray) (h : Int) (w : World) (hst : State w base a bo S) (hg : get S id = some (bi, L)) (hF : L.Perm (F.map kv)) (hnm : w.cell? ⟨a, 0, none⟩ = some (.string nm)) :
    Calls Yba.prog 9 #[.pointer (some ⟨a, 0, none⟩), .string id, .int .u64 h] w fun e w' => Phase id nm h F w e w' := by
  have ca := hst.cell
  have ha := World.block_lt_of_cell? w _ ca
  have hob := hst.out.lt
  have hmm := @run_makeMap Yba.prog
  have hin := hst.ins _ (get_mem hg)
  have hbl := hin.1.lt
  simp only at hbl
  have hl : ∀ (o1 o2 : Obj), (Instr.lookup 46 (.map (some bo)) (.string id) false).run Yba.prog ((w.alloc o1).alloc o2) = .ok (.map (some bi)) ((w.alloc o1).alloc o2) := fun o1 o2 => by
    have := hst.lookup (w' := (w.alloc o1).alloc o2) (by rw [Below.heap_alloc _ _ _ (by simp; omega), Below.heap_alloc _ _ _ hob]) id
    rw [this, hg]
  obtain ⟨wi, hrng, hran, ow, hwi⟩ := Ranging.start (P := Yba.prog) (t := 45) ((hin.1.alloc (.cells #[.string ⟨#[]⟩, .string ⟨#[]⟩, .int .u64 0, .map none] 42)).alloc (.map #[] 0)) Yba.underlying45
  simp only [World.size_alloc] at hran
  have HI : Hid (Ranging wi (w.heap.size + 1 + 1) bi L []) := hran
  have HV : Hid (Holds wi (w.heap.size + 1) []) := by
    rw [hwi]
    have := Holds.made (w.alloc (.cells #[.string ⟨#[]⟩, .string ⟨#[]⟩, .int .u64 0, .map none] 42))
    simp only [World.size_alloc] at this
    exact this.alloc _
  have HB : Hid (Below w.heap.size w wi) := by rw [hwi]; exact (((Below.refl _ w).alloc (Nat.le_refl _) _).alloc (by simp) _).alloc (by simp; omega) _
  have HC : Hid (wi.heap[w.heap.size]? = some (.cells blank 42 (0, 0))) := by
    rw [hwi]
    show _ = _
    rw [Below.heap_alloc _ _ _ (by simp; omega), Below.heap_alloc _ _ _ (by simp), heap_alloc_new]
    rfl
  have HF := hid hF
  have HG := hid hg
  have HST := hid hst
  clear hwi hran hst hg hF hin
  go_enter Yba.func9, Yba.ntmps9
  go_wp2
  go_loopg [18] L.length (fun gk _ wr => ∃ (done V : List (ByteArray × Value)), gk = L.length - done.length ∧ Ranging wr (w.heap.size + 1 + 1) bi L done ∧ Holds wr (w.heap.size + 1) V ∧ Vals h V done ∧ Below w.heap.size w wr ∧ wr.heap[w.heap.size]? = some (.cells blank 42 (0, 0)))
  case atStart => exact ⟨[], [], by simp, HI.out, HV.out, Vals.start h, HB.out, HC.out⟩
  case round =>
    obtain ⟨done, V, hgk, hran, hV, hvals, hbel, hblk⟩ := hrel
    have hsz := hran.lt
    have HV1 := hid hV
    have HVA := hid hvals
    have HBL := hid hbel
    have HBK := hid hblk
    have HGK := hid hgk
    have HR := hid hran
    clear hV hvals hbel hblk hgk
    rcases hran.next (P := Yba.prog) with ⟨hperm, hnx⟩ | ⟨p, w', hp, hpn, hgr, hran', hnx, hen⟩
    · clear hran
      have hnm' : wr.cell? ⟨a, 0, none⟩ = some (.string nm) := (HBL.out.cell (by exact ha)).trans hnm
      have b0 := block_cells HBK.out 0
      have b1 := block_cells HBK.out 1
      have b2 := block_cells HBK.out 2
      have b3 := block_cells HBK.out 3
      simp only [blank] at b0 b1 b2 b3
      obtain ⟨b0, f0⟩ := b0
      obtain ⟨b1, f1⟩ := b1
      obtain ⟨b2, f2⟩ := b2
      obtain ⟨b3, f3⟩ := b3
      have HPE := hid hperm
      clear hperm
      go_wp2
      refine bodyPost_ret (v := .agg #[.string id, .string nm, .int .u64 h, .map (some (w.heap.size + 1))]) (by simp [results, Yba.results9, go_sem, b0, b1, b2, b3]) rfl ?_
      refine ⟨_, V, rfl, ?_, Vals.perm HVA.out (HPE.out.trans HF.out), ?_, by omega⟩
      · exact (((HV1.out.setCell (by simp) _).setCell (by simp) _).setCell (by simp) _).setCell (by simp) _
      · exact ((((HBL.out).setCell (Nat.le_refl _) _).setCell (Nat.le_refl _) _).setCell (Nat.le_refl _) _).setCell (Nat.le_refl _) _
    · clear hran
      obtain ⟨e, heF, rfl⟩ := keyOf_pair HF.out hp
      have hlen := hran'.len
      simp only [List.length_append, List.length_singleton] at hlen
      have HR' := hid hran'
      have HGR := hid hgr
      have HPN := hid hpn
      have hszw : wr.heap.size ≤ w'.heap.size := hgr.size
      have HV2 : Hid (Holds w' (w.heap.size + 1) V) := HV1.out.kept hgr (by simp)
      have HB2 : Hid (Below w.heap.size w w') := HBL.out.trans ((Below.refl _ _).grown hgr (by have := HBL.out.size; omega) (fun k hk => by cases hk; omega))
      have HC2 : Hid (w'.heap[w.heap.size]? = some (.cells blank 42 (0, 0))) := (hgr.block _ (by omega) (by simp; omega)).trans HBK.out
      clear hran' hgr hpn hp
      simp only [kv, agg] at hnx hen
      cases c1 : e.val.toList.isEmpty
      · cases c2 : e.ac == h
        · have HI2 := hid (Vals.skip HVA.out e (by simp [inB, said, c1, c2]))
          go_wp2
          go_roundg (L.length - (done.length + 1))
          case measure => rw [HGK.out]; omega
          case rel => exact ⟨_, V, by simp, HR'.out.alloc _, HV2.out.alloc _, HI2.out, HB2.out.alloc (by have := HB2.out.size; omega) _, (Below.heap_alloc _ _ _ (by omega)).trans HC2.out⟩
        · have HI2 := hid (Vals.add HVA.out e (by simp [inB, said, c1, c2]) HPN.out)
          go_wp2_with (at_mapUpdate; refine wpList_upd rfl _ _ _ rfl Yba.underlying40 Yba.underlying9 (w.heap.size + 1) V e.part (.string e.val) rfl rfl rfl ?_ ?_)
          · exact HV2.out.alloc _
          intro w3 hH3 hg3
          have H3 := hid hH3
          have G3 := hid hg3
          clear hH3 hg3
          go_wp2
          go_roundg (L.length - (done.length + 1))
          case measure => rw [HGK.out]; omega
          case rel => exact ⟨_, _, by simp, (HR'.out.alloc _).kept G3.out (by simp; omega) (by simp), H3.out, HI2.out, (HB2.out.alloc (by have := HB2.out.size; omega) _).trans (below_map G3.out (by have := HB2.out.size; simp; omega) (by omega)), (G3.out.block _ (by simp; omega) (by simp)).trans ((Below.heap_alloc _ _ _ (by omega)).trans HC2.out)⟩
      · have HI2 := hid (Vals.skip HVA.out e (by simp [inB, said, c1]))
        go_wp2
        go_roundg (L.length - (done.length + 1))
        case measure => rw [HGK.out]; omega
        case rel => exact ⟨_, V, by simp, HR'.out.alloc _, HV2.out.alloc _, HI2.out, HB2.out.alloc (by have := HB2.out.size; omega) _, (Below.heap_alloc _ _ _ (by omega)).trans HC2.out⟩

set_option maxHeartbeats 1000000 in
theorem phase_none (base a bo : Nat) (S : List (ByteArray × Inner)) (id nm : ByteArray) (h : Int) (w : World) (hst : State w base a bo S) (hg : get S id = none) (hnm : w.cell? ⟨a, 0, none⟩ = some (.string nm)) :
    Calls Yba.prog 9 #[.pointer (some ⟨a, 0, none⟩), .string id, .int .u64 h] w fun e w' => Phase id nm h [] w e w' := by
  have ca := hst.cell
  have ha : a < w.heap.size := World.block_lt_of_cell? w _ ca
  have hob := hst.out.lt
  have hmm := @run_makeMap Yba.prog
  have hl : ∀ (o1 o2 : Obj), (Instr.lookup 46 (.map (some bo)) (.string id) false).run Yba.prog ((w.alloc o1).alloc o2) = .ok (.map none) ((w.alloc o1).alloc o2) := fun o1 o2 => by
    have := hst.lookup (w' := (w.alloc o1).alloc o2) (by rw [Below.heap_alloc _ _ _ (by simp; omega), Below.heap_alloc _ _ _ hob]) id
    rw [this, hg]
  have hrg := fun w => run_range_nilMap (P := Yba.prog) w 45 _ _ Yba.underlying45
  have hnx : ∀ (o1 o2 : Obj) ty, (Instr.next (.pointer (some ⟨w.heap.size + 1 + 1, 0, none⟩)) false ty).run Yba.prog (((w.alloc o1).alloc o2).alloc (.mapIter none 0 #[] 0)) = .ok (.tuple #[.bool false]) (((w.alloc o1).alloc o2).alloc (.mapIter none 0 #[] 0)) := fun o1 o2 ty => by
    have := run_next_nilMap (P := Yba.prog) ((w.alloc o1).alloc o2) ty 0 0 #[]
    simpa using this
  clear hst hg
  have ha1 : a < w.heap.size + 1 := by omega
  have ha2 : a < w.heap.size + 1 + 1 := by omega
  go_enter Yba.func9, Yba.ntmps9
  go_wp2
  refine wp_loop_rounds 1 ?_
  rw [rounds_succ]
  go_wp2
  refine bodyPost_ret (v := .agg #[.string id, .string nm, .int .u64 h, .map (some (w.heap.size + 1))]) (by simp [results, Yba.results9, go_sem]) rfl ?_
  refine ⟨_, [], rfl, ?_, by simp, ?_, by omega⟩
  · have hm0 := Holds.made (w.alloc (.cells #[.string id, .string nm, .int .u64 h, .map (some (w.heap.size + 1))] 42))
    simp only [World.size_alloc] at hm0
    exact hm0.alloc _
  · exact (((Below.refl _ w).alloc (Nat.le_refl _) _).alloc (by simp) _).alloc (by simp; omega) _

theorem phase_any (base a bo : Nat) (S : List (ByteArray × Inner)) (F : List Ent) (id nm : ByteArray) (h : Int) (w : World) (hst : State w base a bo S) (hF : (cont S id).Perm (F.map kv)) (hnm : w.cell? ⟨a, 0, none⟩ = some (.string nm)) :
    Calls Yba.prog 9 #[.pointer (some ⟨a, 0, none⟩), .string id, .int .u64 h] w fun e w' => Phase id nm h F w e w' := by
  cases hg : get S id with
  | none =>
    have hc : cont S id = [] := by simp [cont, hg]
    rw [hc] at hF
    have : F = [] := by simpa using hF.symm.eq_nil
    subst this
    exact phase_none base a bo S id nm h w hst hg hnm
  | some q =>
    obtain ⟨bi, L⟩ := q
    have hc : cont S id = L := by simp [cont, hg]
    rw [hc] at hF
    exact phase_some base a bo bi S L F id nm h w hst hg hF hnm

/-- What Accepted hands back. -/
def Accd (id nm : ByteArray) (F : List Ent) (w : World) (e : Ending) (w' : World) : Prop := ∃ h, 0 ≤ h ∧ IsHi said (·.ac) F h ∧ Phase id nm h F w e w'

set_option maxHeartbeats 1000000 in
theorem acc_some (base a bo bi : Nat) (S : List (ByteArray × Inner)) (L : List (ByteArray × Value)) (F : List Ent) (id nm : ByteArray) (w : World) (hst : State w base a bo S) (hg : get S id = some (bi, L)) (hF : L.Perm (F.map kv)) (hac : ∀ e ∈ F, 0 ≤ e.ac) (hnm : w.cell? ⟨a, 0, none⟩ = some (.string nm)) :
    Calls Yba.prog 5 #[.pointer (some ⟨a, 0, none⟩), .string id] w fun e w' => Accd id nm F w e w' := by
  have ca := hst.cell
  have ha : a < w.heap.size := World.block_lt_of_cell? w _ ca
  have hob := hst.out.lt
  have hin := hst.ins _ (get_mem hg)
  have hbl := hin.1.lt
  simp only at hbl
  have hl : ∀ (o1 : Obj), (Instr.lookup 46 (.map (some bo)) (.string id) false).run Yba.prog (w.alloc o1) = .ok (.map (some bi)) (w.alloc o1) := fun o1 => by
    have := hst.lookup (w' := w.alloc o1) (Below.heap_alloc _ _ _ hob) id
    rw [this, hg]
  obtain ⟨wi, hrng, hran, ow, hwi⟩ := Ranging.start (P := Yba.prog) (t := 45) (hin.1.alloc (.cells #[.string ⟨#[]⟩, .string ⟨#[]⟩, .int .u64 0, .map none] 42)) Yba.underlying45
  simp only [World.size_alloc] at hran
  have HI : Hid (Ranging wi (w.heap.size + 1) bi L []) := hran
  have HB : Hid (Below w.heap.size w wi) := by rw [hwi]; exact ((Below.refl _ w).alloc (Nat.le_refl _) _).alloc (by simp) _
  have HC : Hid (wi.heap[w.heap.size]? = some (.cells blank 42 (0, 0))) := by
    rw [hwi]
    show _ = _
    rw [Below.heap_alloc _ _ _ (by simp), heap_alloc_new]
    rfl
  have HF := hid hF
  have HG := hid hg
  have HST := hid hst
  clear hwi hran hst hg hF hin
  go_enter Yba.func5, Yba.ntmps5
  go_wp2
  go_loopg [5] L.length (fun gk hi wr => ∃ (done : List (ByteArray × Value)) (h : Int), gk = L.length - done.length ∧ hi = .int .u64 h ∧ 0 ≤ h ∧ IsHi sdP acP done h ∧ Ranging wr (w.heap.size + 1) bi L done ∧ Below w.heap.size w wr ∧ wr.heap[w.heap.size]? = some (.cells blank 42 (0, 0)))
  case atStart => exact ⟨[], 0, by simp, rfl, Int.le_refl _, IsHi.nil, HI.out, HB.out, HC.out⟩
  case round =>
    obtain ⟨done, h, hgk, rfl, h0, hhi, hran, hbel, hblk⟩ := hrel
    have hsz := hran.lt
    have HHI := hid hhi
    have HBL := hid hbel
    have HBK := hid hblk
    have HGK := hid hgk
    have HR := hid hran
    clear hhi hbel hblk hgk
    rcases hran.next (P := Yba.prog) with ⟨hperm, hnx⟩ | ⟨p, w', hp, hpn, hgr, hran', hnx, hen⟩
    · clear hran
      have HPE := hid hperm
      clear hperm
      have HHF := hid (IsHi.ents (HHI.out.of_mem fun p => (HPE.out.trans HF.out).mem_iff))
      go_wp2_with fail
      refine (phase_any base a bo S F id nm h _ (HST.out.same fun k hk => HBL.out.block k hk) (by simpa [cont, HG.out] using HF.out) ((HBL.out.cell (by exact ha)).trans hnm)).mono ?_
      rintro e w2 ⟨bv, V, rfl, hV, hVp, hb2, hbv⟩
      have hsz2 := hb2.size
      have HBK2 := (hb2.block _ (by omega)).trans HBK.out
      have b0 := block_cells HBK2 0
      have b1 := block_cells HBK2 1
      have b2 := block_cells HBK2 2
      have b3 := block_cells HBK2 3
      simp only [blank] at b0 b1 b2 b3
      obtain ⟨b0, f0⟩ := b0
      obtain ⟨b1, f1⟩ := b1
      obtain ⟨b2, f2⟩ := b2
      obtain ⟨b3, f3⟩ := b3
      have HV := hid hV
      have HVP := hid hVp
      have HB2 := hid hb2
      clear hV hVp hb2 HBK2
      go_wp2
      refine bodyPost_ret (v := .agg #[.string id, .string nm, .int .u64 h, .map (some bv)]) (by simp [results, Yba.results5, go_sem, b0, b1, b2, b3]) rfl ?_
      refine ⟨h, h0, HHF.out, bv, V, rfl, ?_, HVP.out, ?_, ?_⟩
      · exact (((HV.out.setCell (by simp; omega) _).setCell (by simp; omega) _).setCell (by simp; omega) _).setCell (by simp; omega) _
      · have hbb := HBL.out.trans (HB2.out.mono HBL.out.size)
        exact (((hbb.setCell (Nat.le_refl _) _).setCell (Nat.le_refl _) _).setCell (Nat.le_refl _) _).setCell (Nat.le_refl _) _
      · have := HBL.out.size; omega
    · clear hran
      obtain ⟨e, heF, rfl⟩ := keyOf_pair HF.out hp
      have hlen := hran'.len
      simp only [List.length_append, List.length_singleton] at hlen
      have HR' := hid hran'
      have HGR := hid hgr
      have hszw : wr.heap.size ≤ w'.heap.size := hgr.size
      have HB2 : Hid (Below w.heap.size w w') := HBL.out.trans ((Below.refl _ _).grown hgr (by have := HBL.out.size; omega) (fun k hk => by cases hk; omega))
      have HC2 : Hid (w'.heap[w.heap.size]? = some (.cells blank 42 (0, 0))) := (hgr.block _ (by omega) (by simp)).trans HBK.out
      have hea := hac e heF
      clear hran' hgr hpn hp
      simp only [kv, agg] at hnx hen
      cases c1 : e.val.toList.isEmpty
      · by_cases hle : h < e.ac
        · have HI2 := hid (IsHi.more HHI.out (kv e) (by simp [sdP_kv, said, c1]) (by rw [acP_kv]; omega))
          go_wp2
          go_roundg (L.length - (done.length + 1))
          case measure => rw [HGK.out]; omega
          case rel => exact ⟨_, e.ac, by simp, rfl, hea, HI2.out, HR'.out.alloc _, HB2.out.alloc (by have := HB2.out.size; omega) _, (Below.heap_alloc _ _ _ (by omega)).trans HC2.out⟩
        · have HI2 := hid (IsHi.keep HHI.out (kv e) (by rw [acP_kv]; omega))
          go_wp2
          go_roundg (L.length - (done.length + 1))
          case measure => rw [HGK.out]; omega
          case rel => exact ⟨_, h, by simp, rfl, h0, HI2.out, HR'.out.alloc _, HB2.out.alloc (by have := HB2.out.size; omega) _, (Below.heap_alloc _ _ _ (by omega)).trans HC2.out⟩
      · have HI2 := hid (IsHi.skip HHI.out (kv e) (by simp [sdP_kv, said, c1]))
        go_wp2
        go_roundg (L.length - (done.length + 1))
        case measure => rw [HGK.out]; omega
        case rel => exact ⟨_, h, by simp, rfl, h0, HI2.out, HR'.out.alloc _, HB2.out.alloc (by have := HB2.out.size; omega) _, (Below.heap_alloc _ _ _ (by omega)).trans HC2.out⟩

set_option maxHeartbeats 1000000 in
theorem acc_none (base a bo : Nat) (S : List (ByteArray × Inner)) (id nm : ByteArray) (w : World) (hst : State w base a bo S) (hg : get S id = none) (hnm : w.cell? ⟨a, 0, none⟩ = some (.string nm)) :
    Calls Yba.prog 5 #[.pointer (some ⟨a, 0, none⟩), .string id] w fun e w' => Accd id nm [] w e w' := by
  have ca := hst.cell
  have ha : a < w.heap.size := World.block_lt_of_cell? w _ ca
  have hob := hst.out.lt
  have hl : ∀ (o1 : Obj), (Instr.lookup 46 (.map (some bo)) (.string id) false).run Yba.prog (w.alloc o1) = .ok (.map none) (w.alloc o1) := fun o1 => by
    have := hst.lookup (w' := w.alloc o1) (Below.heap_alloc _ _ _ hob) id
    rw [this, hg]
  have hrg := fun w => run_range_nilMap (P := Yba.prog) w 45 _ _ Yba.underlying45
  have hnx : ∀ (o1 : Obj) ty, (Instr.next (.pointer (some ⟨w.heap.size + 1, 0, none⟩)) false ty).run Yba.prog ((w.alloc o1).alloc (.mapIter none 0 #[] 0)) = .ok (.tuple #[.bool false]) ((w.alloc o1).alloc (.mapIter none 0 #[] 0)) := fun o1 ty => by
    have := run_next_nilMap (P := Yba.prog) (w.alloc o1) ty 0 0 #[]
    simpa using this
  have HST := hid hst
  have HG := hid hg
  clear hst hg
  have ha1 : a < w.heap.size + 1 := by omega
  go_enter Yba.func5, Yba.ntmps5
  go_wp2
  refine wp_loop_rounds 1 ?_
  rw [rounds_succ]
  go_wp2_with fail
  have HB1 : Hid (Below w.heap.size w ((w.alloc (.cells #[.string ⟨#[]⟩, .string ⟨#[]⟩, .int .u64 0, .map none] 42)).alloc (.mapIter none 0 #[] 0))) := ((Below.refl _ w).alloc (Nat.le_refl _) _).alloc (by simp) _
  refine (phase_none base a bo S id nm 0 _ (HST.out.same fun k hk => HB1.out.block k hk) HG.out ((HB1.out.cell (by exact ha)).trans hnm)).mono ?_
  rintro e w2 ⟨bv, V, rfl, hV, hVp, hb2, hbv⟩
  have hsz2 := hb2.size
  simp only [World.size_alloc] at hsz2 hbv
  have HBK2 : w2.heap[w.heap.size]? = some (.cells blank 42 (0, 0)) := by
    rw [hb2.block _ (by simp; omega), Below.heap_alloc _ _ _ (by simp), heap_alloc_new]
    rfl
  have b0 := block_cells HBK2 0
  have b1 := block_cells HBK2 1
  have b2 := block_cells HBK2 2
  have b3 := block_cells HBK2 3
  simp only [blank] at b0 b1 b2 b3
  obtain ⟨b0, f0⟩ := b0
  obtain ⟨b1, f1⟩ := b1
  obtain ⟨b2, f2⟩ := b2
  obtain ⟨b3, f3⟩ := b3
  have HV := hid hV
  have HVP := hid hVp
  have HB2 := hid hb2
  clear hV hVp hb2 HBK2
  go_wp2
  refine bodyPost_ret (v := .agg #[.string id, .string nm, .int .u64 0, .map (some bv)]) (by simp [results, Yba.results5, go_sem, b0, b1, b2, b3]) rfl ?_
  refine ⟨0, Int.le_refl _, IsHi.nil, bv, V, rfl, ?_, HVP.out, ?_, by omega⟩
  · exact (((HV.out.setCell (by simp; omega) _).setCell (by simp; omega) _).setCell (by simp; omega) _).setCell (by simp; omega) _
  · have hbb := HB1.out.trans (HB2.out.mono HB1.out.size)
    exact (((hbb.setCell (Nat.le_refl _) _).setCell (Nat.le_refl _) _).setCell (Nat.le_refl _) _).setCell (Nat.le_refl _) _

theorem acc_any (base a bo : Nat) (S : List (ByteArray × Inner)) (F : List Ent) (id nm : ByteArray) (w : World) (hst : State w base a bo S) (hF : (cont S id).Perm (F.map kv)) (hac : ∀ e ∈ F, 0 ≤ e.ac) (hnm : w.cell? ⟨a, 0, none⟩ = some (.string nm)) :
    Calls Yba.prog 5 #[.pointer (some ⟨a, 0, none⟩), .string id] w fun e w' => Accd id nm F w e w' := by
  cases hg : get S id with
  | none =>
    have hc : cont S id = [] := by simp [cont, hg]
    rw [hc] at hF
    have : F = [] := by simpa using hF.symm.eq_nil
    subst this
    exact acc_none base a bo S id nm w hst hg hnm
  | some q =>
    obtain ⟨bi, L⟩ := q
    have hc : cont S id = L := by simp [cont, hg]
    rw [hc] at hF
    exact acc_some base a bo bi S L F id nm w hst hg hF hac hnm
end Go.Proofs.Ybulkehhy.Walks
