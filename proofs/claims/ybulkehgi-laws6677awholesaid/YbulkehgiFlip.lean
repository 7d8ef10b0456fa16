/-
  zzs6677aflip (f7): it hands back some string, in memory of its own. Which one does not matter.
-/
import Derived.Test.YbulkehgiFold
import Derived.Laws.BytesArg
import Derived.Laws.IdiomStrings
import Derived.Outline
namespace Go.Proofs.Ybulkehgi.Flip
open Go.RowKit Fold

/-- A row of bytes of the call's own: what they are does not matter. -/
def BRow (W : World) (g l : Nat) : Prop := ∃ zs : List Int, zs.length = l ∧ ∀ i, i < l → W.cell? ⟨g, i, none⟩ = some (.int .u8 (zs.getD i 0)) ∧ W.frozen? ⟨g, i, none⟩ = false ∧ 0 ≤ zs.getD i 0 ∧ zs.getD i 0 ≤ 255

theorem BRow.at {W : World} {g l : Nat} (h : BRow W g l) (i : Nat) (hi : i < l) : ∃ z, W.cell? ⟨g, i, none⟩ = some (.int .u8 z) ∧ W.frozen? ⟨g, i, none⟩ = false ∧ 0 ≤ z ∧ z ≤ 255 := by
  obtain ⟨zs, _, hc⟩ := h
  exact ⟨_, hc i hi⟩
theorem BRow.set {W : World} {g l : Nat} (h : BRow W g l) (i : Nat) (hi : i < l) (z : Int) (h0 : 0 ≤ z) (h1 : z ≤ 255) : BRow (W.setCell ⟨g, i, none⟩ (.int .u8 z)) g l := by
  obtain ⟨zs, hl, hc⟩ := h
  refine ⟨zs.set i z, by simpa using hl, fun j hj => ?_⟩
  by_cases e : j = i
  · subst e
    have e2 : (zs.set j z).getD j 0 = z := by simp [List.getD, show j < zs.length by omega]
    rw [World.frozen?_setCell, World.cell?_setCell_same (h := (hc j hj).1), e2]
    exact ⟨rfl, (hc j hj).2.1, h0, h1⟩
  · have e2 : (zs.set i z).getD j 0 = zs.getD j 0 := by simp [List.getD, show ¬ i = j by omega]
    rw [World.frozen?_setCell, World.cell?_setCell_other (h := by simp), e2]
    exact hc j hj
theorem BRow.str {W : World} {g l : Nat} (h : BRow W g l) : ∃ t : ByteArray, t.size = l ∧ ∀ c, (convert 48 9 (.slice (some ⟨g, 0, none⟩) l c)).run Yba.prog W = .ok (.string t) W := by
  obtain ⟨zs, hl, hc⟩ := h
  refine ⟨strOfNums zs, by rw [strOfNums_size, hl], fun c => ?_⟩
  exact run_convert_bytes_arg W 48 5 Yba.underlying48 Yba.underlying5 g 0 l c zs hl (fun i hi => by simpa using (hc i hi).1) 9 Yba.underlying9
theorem bytes_of (w : World) (s : ByteArray) : ∃ cp wb, (convert 9 48 (.string s)).run Yba.prog w = .ok (.slice (some ⟨w.heap.size, 0, none⟩) s.size cp) wb ∧ BRow wb w.heap.size s.size ∧ Below w.heap.size w wb := by
  refine ⟨_, _, run_bytes_of_string w 9 48 5 s Yba.underlying9 Yba.underlying48 Yba.underlying5, ⟨s.data.toList.map fun c => (c.toNat : Int), by rw [List.length_map, len_at], fun i hi => ?_⟩, ?_⟩
  · have hd : i < s.data.size := hi
    have e : (s.data.toList.map fun c => (c.toNat : Int)).getD i 0 = (s.data[i].toNat : Int) := by simp [List.getD, Array.getElem?_eq_getElem hd]
    have hc := World.cell?_alloc_mark w.drew (bytesRow s (grownCap w s.size 0 5)) 5 ((bytesRow s (grownCap w s.size 0 5)).size, (bytesRow s (grownCap w s.size 0 5)).size + 1) i
    have hf := World.frozen?_alloc_mark w.drew (bytesRow s (grownCap w s.size 0 5)) 5 (bytesRow s (grownCap w s.size 0 5)).size ((bytesRow s (grownCap w s.size 0 5)).size + 1) i
    rw [e]
    refine ⟨hc.trans (bytesRow_at s _ i hd), hf.trans ?_, (byte_bd _).1, (byte_bd _).2⟩
    have : s.data.size ≤ (bytesRow s (grownCap w s.size 0 5)).size := by simp [bytesRow]
    rw [decide_eq_false (by omega), Bool.false_and]
  · exact (Below.refl _ w).drew.alloc (Nat.le_refl _) _

/-- The call hands back a string of that size. -/
def Some' (n : Nat) (e : Ending) : Prop := ∃ t : ByteArray, e = .returned (.string t) ∧ t.size = n

set_option maxHeartbeats 1000000 in
theorem flip_any (s : ByteArray) (m : Int) (w : World) (hs : s.size ≤ 140737488355328) (_h0 : 0 ≤ m) (_h1 : m ≤ 255) :
    Calls Yba.prog 7 #[.string s, .int .u8 m] w fun e w' => Some' s.size e ∧ Below w.heap.size w w' := by
  obtain ⟨cp, wb, hcv, hrow, hbel⟩ := bytes_of w s
  have HR := hid hrow
  have HB := hid hbel
  clear hrow hbel
  go_enter Yba.func7, Yba.ntmps7
  go_wp2
  go_loopw [6] (fun i wr => ∃ k : Nat, k ≤ 8 ∧ k ≤ s.size ∧ i = .int .i64 k ∧ BRow wr w.heap.size s.size ∧ Below w.heap.size w wr) (fun i _ => 8 - (intOf i).toNat)
  case atStart => exact ⟨0, by omega, by omega, rfl, HR.out, HB.out⟩
  case round =>
    obtain ⟨k, hk, hks, rfl, hrow, hbel⟩ := hrel
    have HR := hid hrow
    have HB := hid hbel
    clear hrow hbel hcv
    by_cases hlt : k < s.size ∧ k < 8
    · obtain ⟨hl1, hl2⟩ := hlt
      obtain ⟨z, hc, hf, hz0, hz1⟩ := HR.out.at k hl1
      go_wp2
      all_goals
        go_roundw
        case rel => first | exact ⟨k + 1, by omega, by omega, by go_num, HR.out, HB.out⟩ | exact ⟨k + 1, by omega, by omega, by go_num, HR.out.set k hl1 _ (bits_lo_u8 ..) (bits_hi_u8 ..), HB.out.setCell (by simp) _⟩
        case measure => simp [intOf]; omega
    · obtain ⟨t, hts, hcv⟩ := HR.out.str
      by_cases hl1 : k < s.size
      · have hl2 : ¬ (k : Int) < 8 := by omega
        go_wp2
        go_ret
        exact ⟨⟨t, rfl, hts⟩, HB.out⟩
      · go_wp2
        go_ret
        exact ⟨⟨t, rfl, hts⟩, HB.out⟩
end Go.Proofs.Ybulkehgi.Flip
