/-
  Plain: lists of strings, sorted. And slices.Sort (f24) over a row of strings.
-/
import Derived.Test.YbulkehgiStrs
import Derived.Test.YbulkehgiShelf
namespace Go.Proofs.Ybulkehgi.Srt
open Go.RowKit Fold Strs

def by_ (s : ByteArray) : List UInt8 := s.data.toList
theorem by_inj {a b : ByteArray} (h : by_ a = by_ b) : a = b := by
  cases a; cases b
  simpa [by_] using h
def le (a b : ByteArray) : Prop := by_ a ≤ by_ b
def srt (ss : List ByteArray) : List ByteArray := ((ss.map by_).mergeSort fun x y => decide (x ≤ y)).map fun l => ⟨l.toArray⟩
theorem by_of (l : List UInt8) : by_ ⟨l.toArray⟩ = l := by simp [by_]
theorem of_by (s : ByteArray) : (⟨(by_ s).toArray⟩ : ByteArray) = s := by cases s; simp [by_]
theorem srt_perm (ss : List ByteArray) : (srt ss).Perm ss := by
  have h := (List.mergeSort_perm (ss.map by_) fun x y => decide (x ≤ y)).map (fun l => (⟨l.toArray⟩ : ByteArray))
  refine h.trans ?_
  rw [List.map_map]
  have : ((fun l => (⟨l.toArray⟩ : ByteArray)) ∘ by_) = id := by funext s; exact of_by s
  rw [this, List.map_id]
theorem srt_sorted (ss : List ByteArray) : (srt ss).Pairwise le := by
  unfold srt
  rw [List.pairwise_map]
  have := List.pairwise_mergeSort (le := fun x y : List UInt8 => decide (x ≤ y)) (fun a b c h1 h2 => by simp only [decide_eq_true_eq] at *; exact List.le_trans h1 h2) (fun a b => by simp only [Bool.or_eq_true, decide_eq_true_eq]; exact List.le_total a b) (ss.map by_)
  refine this.imp fun {a b} h => ?_
  unfold le
  rw [by_of, by_of]
  simpa using h
theorem sorted_unique {l l' : List ByteArray} (h : l.Perm l') (h1 : l.Pairwise le) (h2 : l'.Pairwise le) : l = l' :=
  List.Perm.eq_of_pairwise (fun _ _ _ _ ha hb => by_inj (List.le_antisymm ha hb)) h1 h2 h
theorem srt_eq {l l' : List ByteArray} (h : l.Perm l') (h' : l'.Pairwise le) : srt l = l' := sorted_unique ((srt_perm l).trans h) (srt_sorted l) h'
theorem srt_congr {l l' : List ByteArray} (h : l.Perm l') : srt l = srt l' := srt_eq (h.trans (srt_perm l').symm) (srt_sorted l')
theorem srt_len (ss : List ByteArray) : (srt ss).length = ss.length := (srt_perm ss).length_eq

open Go.Sort in
theorem sort_any (v : Value) (B : Nat) (ss : List ByteArray) (w : World) (h : SS w B v ss) (h2 : ss ≠ []) (hz : ss.length ≤ 1048576) :
    Calls Yba.prog 24 #[v] w fun e w' => e = .returned (.tuple #[]) ∧ SS w' B v (srt ss) ∧ w.grownBy w' v.ownBlock := by
  rcases h.shape with ⟨_, h⟩ | ⟨g, cap, rfl, hn, hm, hB, hlt, hc⟩
  · exact absurd h h2
  · have hl : (ss.map by_).length = ss.length := by simp
    have hH : Sort.Holds encStr w g 0 (ss.map by_).toArray := by
      intro j hj
      have hj' : j < ss.length := by simpa using hj
      have e : (ss.map by_).toArray[j]! = by_ ss[j] := by
        rw [getElem!_pos _ j hj]
        simp
      rw [e, Nat.zero_add]
      refine ⟨?_, (h.row.at j (by simpa using hj')).2⟩
      rw [hc j hj']
      exact congrArg (fun x => some (Value.string x)) (of_by _).symm
    have hcall := Yba.slices_Sort_string g 0 cap (ss.map by_) w hH hlt (by omega)
    rw [hl] at hcall
    refine hcall.mono ?_
    rintro e w' ⟨rfl, n, os, rfl⟩
    rcases h.row.form with ⟨hv, _⟩ | ⟨g', cap', cur, hv, _, _, hg, hn', hm', hs', htk⟩
    · cases hv
    · have eg : g = g' := by injection hv with h _ _; injection h with h; injection h
      have ec : cap = cap' := by injection hv
      subst eg ec
      refine ⟨rfl, ?_, ⟨rfl, rfl, rfl, ?_, ?_⟩⟩
      · have hlen : ((srt ss).map Value.string).length = ss.length := by rw [List.length_map, srt_len]
        unfold SS
        rw [← hlen]
        refine Row.of (cur := Sort.putCells encStr 0 ((ss.map by_).mergeSort fun x y => decide (x ≤ y)).toArray cur) hB ?_ (by rw [hlen]; exact hn) hm ?_ ?_
        · simp only [grow, putRow, mapBlock]
          rw [Array.getElem?_append_left (by simpa using hlt), Array.getElem?_modify, if_pos rfl, Sort.heap_ahead, hg]
          rfl
        · simp [Sort.putCells, hs']
        · rw [hlen]
          apply List.ext_getElem?
          intro j
          rw [List.getElem?_take]
          by_cases hj : j < ss.length
          · have hjc : j < cur.size := by rw [hs']; omega
            have hjs : j < ((ss.map by_).mergeSort fun x y => decide (x ≤ y)).length := by rw [List.length_mergeSort]; simpa using hj
            rw [if_pos hj, Array.getElem?_toList]
            unfold Sort.putCells srt
            rw [Array.getElem?_mapIdx, Array.getElem?_eq_getElem hjc, Option.map_some, if_pos ⟨Nat.zero_le _, by simpa using hj⟩, Nat.sub_zero, getElem!_pos _ j (by simpa using hj)]
            simp [List.getElem?_eq_getElem hjs, encStr]
          · rw [if_neg hj, List.getElem?_eq_none (by rw [hlen]; omega)]
      · simp [grow]
      · intro k hk hne
        have hne' : g ≠ k := fun e => hne (by simp [Value.ownBlock, e])
        simp only [grow, putRow, mapBlock]
        rw [Array.getElem?_append_left (by simpa using hk), Array.getElem?_modify, if_neg hne', Sort.heap_ahead]
end Go.Proofs.Ybulkehgi.Srt
