import Derived.Test.YbulkehhySet
namespace Go.Proofs.Ybulkehhy.Walks
open Go.RowKit Plain SM

/-- What the acceptor keeps of transaction k behind the records rs. -/
def conts (rs : List (ByteArray × Ent)) (k : ByteArray) : List (ByteArray × Value) := (rs.filter fun p => decide (p.1 = k)).foldl (fun l p => put l p.2.part (agg p.2)) []
theorem conts_snoc (rs : List (ByteArray × Ent)) (p : ByteArray × Ent) (k : ByteArray) : conts (rs ++ [p]) k = if p.1 = k then put (conts rs k) p.2.part (agg p.2) else conts rs k := by
  unfold conts
  rw [List.filter_append, List.foldl_append]
  by_cases h : p.1 = k <;> simp [h]
theorem cont_put (S : List (ByteArray × Inner)) (t : ByteArray) (q : Inner) (k : ByteArray) : cont (put S t q) k = if t = k then q.2 else cont S k := by
  unfold cont
  by_cases h : t = k
  · subst h; rw [get_put_same, if_pos rfl]
  · rw [get_put_other _ _ _ _ h, if_neg h]

def Recs (w : World) (g : Nat) (rs : List (ByteArray × Ent)) : Prop := ∀ i (h : i < rs.length),
  w.cell? ⟨g, i * 6, none⟩ = some (.pointer none) ∧ w.cell? ⟨g, i * 6 + 1, none⟩ = some (.string rs[i].1) ∧ w.cell? ⟨g, i * 6 + 2, none⟩ = some (.string rs[i].2.part) ∧ w.cell? ⟨g, i * 6 + 3, none⟩ = some (.int .u64 rs[i].2.pr) ∧
  w.cell? ⟨g, i * 6 + 4, none⟩ = some (.int .u64 rs[i].2.ac) ∧ w.cell? ⟨g, i * 6 + 5, none⟩ = some (.string rs[i].2.val)
theorem Recs.below {w w' : World} {g : Nat} {rs : List (ByteArray × Ent)} {B : Nat} (h : Recs w g rs) (hb : Below B w w') (hg : g < B) : Recs w' g rs := fun i hi => by
  obtain ⟨h0, h1, h2, h3, h4, h5⟩ := h i hi
  exact ⟨(hb.cell hg).trans h0, (hb.cell hg).trans h1, (hb.cell hg).trans h2, (hb.cell hg).trans h3, (hb.cell hg).trans h4, (hb.cell hg).trans h5⟩

set_option maxHeartbeats 400000 in
theorem new_any (nm : ByteArray) (g cap : Nat) (rs : List (ByteArray × Ent)) (w : World) (hr : Recs w g rs) (hg : g < w.heap.size) (hl : rs.length ≤ 4096) :
    Calls Yba.prog 4 #[.string nm, .slice (some ⟨g, 0, none⟩) rs.length cap] w fun e w' => e = .returned (.pointer (some ⟨w.heap.size + 1 + 1, 0, none⟩)) ∧
      ∃ bo S, State w' w.heap.size (w.heap.size + 1 + 1) bo S ∧ (∀ k, cont S k = conts rs k) ∧ w'.cell? ⟨w.heap.size + 1 + 1, 0, none⟩ = some (.string nm) ∧ Below w.heap.size w w' := by
  have hmm := @run_makeMap Yba.prog
  go_enter Yba.func4, Yba.ntmps4
  go_wp2
  go_loopw [15] (fun j wr => ∃ (k : Nat) (S : List (ByteArray × Inner)), k ≤ rs.length ∧ j = .int .i64 k ∧ State wr w.heap.size (w.heap.size + 1 + 1) w.heap.size S ∧ (∀ x, cont S x = conts (rs.take k) x) ∧ wr.cell? ⟨w.heap.size + 1 + 1, 0, none⟩ = some (.string nm) ∧ Below w.heap.size w wr)
    (fun j _ => rs.length - (intOf j).toNat)
  case atStart =>
    refine ⟨0, [], Nat.zero_le _, rfl, ⟨by simp [go_sem], ⟨by omega, Nat.le_refl _⟩, ?_, by simp, by simp⟩, fun x => rfl, by simp [go_sem], ?_⟩
    · exact ((Holds.made w).alloc _).alloc _
    · exact (((Below.refl _ w).alloc (Nat.le_refl _) _).alloc (by simp) _).alloc (by simp; omega) _
  case round =>
    obtain ⟨k, S, hk, rfl, hst, hco, hnm, hbel⟩ := hrel
    have HST := hid hst
    have HCO := hid hco
    clear hst hco
    by_cases hlt : k < rs.length
    · obtain ⟨c0, c1, c2, c3, c4, c5⟩ := (hr.below hbel hg) k hlt
      have hsz := hbel.size
      have hgr : g < wr.heap.size := by omega
      have i1 : (0 : Int) ≤ (k : Int) := by omega
      have i2 : (k : Int) < (rs.length : Int) := by omega
      go_wp2_with fail
      refine (set_any w.heap.size (w.heap.size + 1 + 1) w.heap.size S rs[k].1 rs[k].2.part rs[k].2 _ (HST.out.same (Below.heap_alloc wr _)) (by simp; omega)).mono ?_
      rintro e w2 ⟨rfl, ⟨bi, hst2⟩, hb2, hk2⟩
      have HST2 := hid hst2
      clear hst2
      go_wp2
      go_roundw
      case rel =>
        refine ⟨k + 1, _, by omega, by go_num, HST2.out, fun x => ?_, ?_, ?_⟩
        · rw [cont_put, List.take_succ_eq_append_getElem hlt, conts_snoc, HCO.out, HCO.out]
          split
          · rename_i h; rw [h]
          · rfl
        · exact hk2.cell ((Keeps.of_same (by simp) (Below.heap_alloc wr _)).cell hnm)
        · exact (hbel.alloc (by omega) _).trans hb2
      case measure => simp [intOf]; omega
    · go_wp2
      go_ret
      refine ⟨rfl, _, S, HST.out, fun x => ?_, hnm, hbel⟩
      rw [HCO.out, List.take_of_length_le (by omega)]
end Go.Proofs.Ybulkehhy.Walks
