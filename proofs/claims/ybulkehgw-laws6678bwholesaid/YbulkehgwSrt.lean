/-
  slices.SortFunc (f6) over a row of slices of bytes, by bytes.Compare (f7).
-/
import Derived.Test.YbulkehgwLib
import Derived.Test.YbulkehgwShelf
namespace Go.Proofs.Ybulkehgw.Srt
open Go.RowKit Pl Mem Bld AddZ AddL Grp Lb

theorem cmp_lt : ∀ (x y : List UInt8), Lib.compareBytes x y < 0 ↔ x < y
  | [], [] => by simp [Lib.compareBytes]
  | [], b :: t => by simp [Lib.compareBytes]
  | a :: r, [] => by simp [Lib.compareBytes]
  | a :: r, b :: t => by
    have e : Lib.compareBytes (a :: r) (b :: t) = (if a < b then -1 else if b < a then 1 else Lib.compareBytes r t) := by rw [Lib.compareBytes]
    rw [List.cons_lt_cons_iff, ← cmp_lt r t, e]
    by_cases h1 : a < b
    · simp [h1]
    · by_cases h2 : b < a
      · rw [if_neg h1, if_pos h2]
        have : ¬ a = b := fun e => by subst e; exact h1 h2
        simp [h1, this]
      · have : a = b := UInt8.le_antisymm (UInt8.not_lt.1 h2) (UInt8.not_lt.1 h1)
        subst this
        rw [if_neg h1, if_neg h1]
        simp [h1]

/-- A prefix: the block that holds it. -/
structure El (w0 : World) (blk : Nat) where
  g : Nat
  c : Nat
  bs : Bs
  rd : Rd w0 g 0 bs
  ne : g ≠ blk
instance {w0 : World} {blk : Nat} : Inhabited (El w0 blk) := ⟨⟨blk + 1, 0, [], fun k h => by simp at h, by omega⟩⟩
def enc {w0 : World} {blk : Nat} (x : El w0 blk) : Value := .slice (some ⟨x.g, 0, none⟩) x.bs.length x.c
def cf {w0 : World} {blk : Nat} (x y : El w0 blk) : Int := Lib.compareBytes (by8 x.bs) (by8 y.bs)

theorem swo {w0 : World} {blk : Nat} : Sort.SWO (ltOf (cf (w0 := w0) (blk := blk))) := by
  refine ⟨fun x => ?_, fun x y z h1 h2 => ?_, fun x y z h1 h2 => ?_⟩
  · simp only [ltOf, cf, decide_eq_false_iff_not, cmp_lt]
    exact List.lt_irrefl _
  · simp only [ltOf, cf, decide_eq_true_eq, cmp_lt] at *
    exact List.lt_trans h1 h2
  · simp only [ltOf, cf, decide_eq_false_iff_not, cmp_lt] at *
    exact fun h => by
      have h3 := List.not_lt.1 h1
      have h4 := List.not_lt.1 h2
      exact absurd h (List.not_lt.2 (List.le_trans h4 h3))

theorem sorted_heap {α : Type} [Inhabited α] (enc : α → Value) (w : World) (blk m : Nat) (dk : Array α) (os : Array Obj) (k : Nat) (hk : k < w.heap.size) (hne : k ≠ blk) : (sortWorld enc w blk 0 m dk os).heap[k]? = w.heap[k]? := by
  unfold sortWorld
  simp only [Sort.grow, Sort.putRow, Sort.mapBlock]
  rw [Array.getElem?_append_left (by simpa using hk), Array.getElem?_modify, if_neg (fun e => hne e.symm), Sort.heap_ahead]

theorem cmp_lays (w : World) (blk n : Nat) : CmpLays1 Yba.prog 7 #[] (enc (w0 := w) (blk := blk)) cf blk 0 n w := by
  intro m os dk _ x y
  have hrd : ∀ z : El w blk, Rd (sortWorld enc w blk 0 m dk os) z.g 0 z.bs := fun z k hk => (World.cell?_of_block (w := w) (sorted_heap enc w blk m dk os z.g (z.rd.lt (by omega)) z.ne)).trans (z.rd k hk)
  refine (cmp_any x.g x.c y.g y.c x.bs y.bs _ (hrd x) (hrd y)).mono ?_
  rintro e w' ⟨rfl, rfl⟩
  exact ⟨rfl, 0, #[], by simp [Sort.grow]; rfl⟩

/-- What the sort leaves. -/
def Sorted (w : World) (blk : Nat) (d : List (El w blk)) (e : Ending) (w' : World) : Prop :=
  e = .returned (.tuple #[]) ∧ ∃ d' : List (El w blk), d'.Perm d ∧ (d'.map (·.bs)).Pairwise (fun p q => by8 p ≤ by8 q) ∧ Cl w' blk 22 (d'.map enc) ∧ Keeps (fun k => k = blk) w w'
theorem sort_any (w : World) (blk : Nat) (d : List (El w blk)) (h : Cl w blk 22 (d.map enc)) (hm : d.length ≤ 1048576) :
    Calls Yba.prog 6 #[.slice (some ⟨blk, 0, none⟩) d.length d.length, .func (.func 7) #[] #[]] w (Sorted w blk d) := by
  have hH : Sort.Holds enc w blk 0 d.toArray := by
    intro j hj
    have hj' : j < d.length := by simpa using hj
    rw [Nat.zero_add]
    refine ⟨?_, h.frozen j⟩
    rw [h.cell j (by simpa using hj'), getElem!_pos _ j hj]
    simp
  have hc := Any.slices_SortFunc Yba.laysSlF6_f6 (enc (w0 := w) (blk := blk)) (fun _ => rfl) cf swo 7 #[] blk 0 d.length d.toArray w (enters_of Yba.func7 (by kernel_rfl) rfl) (by simpa using cmp_lays w blk d.length) hH h.lt (by simp; omega)
  rw [List.size_toArray] at hc
  refine Calls.mono (show Calls Yba.prog 6 _ w _ from hc) ?_
  rintro e w' ⟨rfl, dA, n, os, ⟨hsz, _, hperm⟩, hsort, rfl⟩
  have hsz' : dA.size = d.length := by simpa using hsz
  have hperm' : dA.toList.Perm d := by
    have e1 : dA.extract 0 d.length = dA := by rw [← hsz']; simp
    have e2 : d.toArray.extract 0 d.length = d.toArray := by
      have : d.toArray.size = d.length := by simp
      rw [← this, Array.extract_size]
    rw [e1, e2] at hperm
    simpa using hperm
  refine ⟨rfl, dA.toList, hperm', ?_, ?_, ?_⟩
  · rw [List.pairwise_iff_getElem]
    intro i j hi hj hij
    simp only [List.length_map, Array.length_toList] at hi hj
    have h1 := hsort i j (Nat.zero_le _) hij (by omega)
    rw [getElem!_pos dA i hi, getElem!_pos dA j hj] at h1
    simp only [ltOf, cf, decide_eq_false_iff_not, cmp_lt] at h1
    simp only [List.getElem_map, Array.getElem_toList]
    exact List.not_lt.1 h1
  · unfold Cl
    have hb : w.heap[blk]? = some (.cells (d.map enc).toArray 22 (0, 0)) := h
    unfold sortWorld
    simp only [Sort.grow, Sort.putRow, Sort.mapBlock]
    rw [Array.getElem?_append_left (by simpa using h.lt), Array.getElem?_modify, if_pos rfl, Sort.heap_ahead, hb]
    simp only [Option.map_some, Sort.onCells]
    congr 2
    apply Array.ext_getElem?
    intro j
    unfold Sort.putCells
    rw [Array.getElem?_mapIdx]
    by_cases hj : j < d.length
    · have hjd : j < dA.size := by omega
      rw [Array.getElem?_eq_getElem (by simpa using hj), Option.map_some, if_pos ⟨Nat.zero_le _, by omega⟩, Nat.sub_zero, getElem!_pos dA j hjd]
      simp [hjd]
    · rw [Array.getElem?_eq_none (by simpa using hj), Array.getElem?_eq_none (by simp; omega)]
      rfl
  · refine ⟨rfl, rfl, rfl, ?_, fun k hk hne => sorted_heap enc w blk n dA os k hk hne⟩
    unfold sortWorld
    simp [Sort.grow, Sort.putRow, Sort.mapBlock]
end Go.Proofs.Ybulkehgw.Srt
