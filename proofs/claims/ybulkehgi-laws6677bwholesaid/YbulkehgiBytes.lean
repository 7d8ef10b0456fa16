/-
  Rows of bytes that the call itself owns: append of a byte, append of a string, the way back to a string. Over the program's type numbers 48 (slice of bytes), 5 (byte), 9 (string).
-/
import Derived.Test.YbulkehgiProg
import Derived.WalkKit
import Derived.WalkLawsBesides
import Derived.Lib.AppendStr
import Derived.Laws.BytesArg
import Derived.Deep.AppendLies
namespace Go.Proofs.Ybulkehgi
open Go.RowKit

theorem Yba.rowInfo5 : (Yba.prog.info? 5).map (fun i => (i.zero, i.size, i.bytes)) = some (some (.int .u8 0), 1, 1) := by kernel_rfl

namespace Bytes
def cellsOf (l : List UInt8) : List Value := l.map fun b => Value.int .u8 b.toNat
/-- The slice value owns the bytes l, in blocks from 'base' on (or it is nil and l is empty). -/
def Own (w : World) (base : Nat) (ao : Option Addr) (n cap : Nat) (l : List UInt8) : Prop :=
  n = l.length ∧ w.ownsRow base 5 1 (.slice ao n cap) n (cellsOf l)

theorem Own.nil (w : World) (base : Nat) : Own w base none 0 0 [] := ⟨rfl, World.ownsRow_nil _ _ _ _⟩
theorem Own.len {w : World} {base : Nat} {ao : Option Addr} {n cap : Nat} {l : List UInt8} (h : Own w base ao n cap l) : n = l.length := h.1
theorem Own.alloc {w : World} {base : Nat} {ao : Option Addr} {n cap : Nat} {l : List UInt8} (h : Own w base ao n cap l) (o : Obj) : Own (w.alloc o) base ao n cap l := ⟨h.1, h.2.alloc o⟩
theorem Own.drew {w : World} {base : Nat} {ao : Option Addr} {n cap : Nat} {l : List UInt8} (h : Own w base ao n cap l) : Own w.drew base ao n cap l := ⟨h.1, h.2.drew⟩
theorem Own.setBelow {w : World} {base : Nat} {ao : Option Addr} {n cap : Nat} {l : List UInt8} (h : Own w base ao n cap l) {p : Addr} (hp : p.block < base) (u : Value) : Own (w.setCell p u) base ao n cap l := ⟨h.1, ownsRow_setCell_below h.2 hp u⟩

/-- What an owned row leaves below 'base' behind a law that ends in 'grownBy'. -/
theorem below_grown {w w' : World} {base : Nat} {v : Value} {n : Nat} {xs : List Value} (hown : w.ownsRow base 5 1 v n xs) (hg : w.grownBy w' v.ownBlock) (hb : base ≤ w.heap.size) : Below base w w' := by
  refine (Below.refl _ _).grown hg hb fun k hk => ?_
  rcases hown.2 with ⟨rfl, _⟩ | ⟨g, cap, cur, rfl, hbg, _⟩
  · simp [Value.ownBlock] at hk
  · simp [Value.ownBlock] at hk
    omega

theorem slice_form {w : World} {base : Nat} {v : Value} {n : Nat} {xs : List Value} (hown : w.ownsRow base 5 1 v n xs) : ∃ ao cap, v = .slice ao n cap := by
  rcases hown.2 with ⟨rfl, rfl⟩ | ⟨g, cap, cur, rfl, _⟩
  · exact ⟨none, 0, rfl⟩
  · exact ⟨_, _, rfl⟩

/-- append(b, c), b owned: the byte lies in the block that has just been laid. -/
theorem wpList_app_one {ops : Array Oper} {rest : List Oper} {o : Oper} {a : Act} {Q : Exit → Act → World → Prop} {w : World} (hgd : o.guard = none) (sl x : Operand)
    (ho : o.op = .call { callee := .builtin .append, args := #[sl, x], argTypes := #[48, 48] })
    (base : Nat) (ao : Option Addr) (n cap : Nat) (l : List UInt8) (c : UInt8) (hs : a.eval sl = .slice ao n cap) (hx : a.eval x = .slice (some ⟨w.heap.size, 0, none⟩) 1 1) (hown : Own w base ao n cap l)
    (hn : n ≤ 1099511627776) (hb : base ≤ w.heap.size)
    (h : ∀ ao' cap' w', Own w' base ao' (n + 1) cap' (l ++ [c]) → Below base w w' → wpList Yba.prog ops Q rest (a.put o.dst (.slice ao' (n + 1) cap')) w') :
    wpList Yba.prog ops Q (o :: rest) a (w.alloc (.cells #[.int .u8 c.toNat] 5)) := by
  obtain ⟨i0, hi, hz0, hz1, hz2⟩ := info_parts Yba.rowInfo5
  refine wpList_append_own _ hgd sl x 48 ho base 5 i0 (.int .u8 0) 1 1 Yba.underlying48 hi hz0 hz1 hz2 rfl (by decide) _ n _ hs (hown.2.alloc _) ⟨w.heap.size, 0, none⟩ 1 1 [.int .u8 c.toNat] hx rfl ?_ ?_ ?_ ?_ ?_ ?_
  · intro j u hj
    match j, hj with
    | 0, hj => simp at hj; subst hj; simp [Addr.add]
  · intro u hu; simp at hu; subst hu; rfl
  · unfold maxLen; omega
  · omega
  · simp; omega
  · intro v' w1 hown' hgrow _
    obtain ⟨ao', cap', rfl⟩ := slice_form hown'
    refine h ao' cap' w1 ⟨by simp [hown.1], by simpa [cellsOf] using hown'⟩ ?_
    exact ((Below.refl base w).alloc hb _).trans (below_grown (hown.2.alloc _) hgrow (by simp; omega))

/-- append(b, s...), b owned, s a string: one step of a region that draws its order. -/
theorem step_app_str {ops : Array Oper} {o : Oper} {a : Act} {K : Act → World → Prop} {Q : Exit → Act → World → Prop} {E : Prop} {w : World} (hgd : o.guard = none) (sl x : Operand)
    (ho : o.op = .call { callee := .builtin .append, args := #[sl, x], argTypes := #[48, 9] })
    (base : Nat) (ao : Option Addr) (n cap : Nat) (l : List UInt8) (s : ByteArray) (hs : a.eval sl = .slice ao n cap) (hx : a.eval x = .string s) (hown : Own w base ao n cap l)
    (hn : n + s.size ≤ 1099511627776) (hb : base ≤ w.heap.size)
    (h : ∀ ao' cap' w', Own w' base ao' (n + s.size) cap' (l ++ s.data.toList) → Below base w w' → K (a.put o.dst (.slice ao' (n + s.size) cap')) w') :
    if Region.wanted o (yielded ops a.tmps) = true then Oper.wp Yba.prog o a w K Q else E := by
  have hw : Region.wanted o (yielded ops a.tmps) = true := by simp [Region.wanted, hgd]
  rw [if_pos hw]
  obtain ⟨i0, hi, hz0, hz1, hz2⟩ := info_parts Yba.rowInfo5
  obtain ⟨v', w', hr, h2, h3, _⟩ := Lib.run_append_own_string (P := Yba.prog) w base 48 9 o.type 5 i0 Yba.underlying48 Yba.underlying9 hi hz0 hz1 hz2 _ n _ hown.2 s (by unfold maxLen; omega) (by omega) hb
  obtain ⟨ao', cap', rfl⟩ := slice_form h2
  unfold Oper.wp execOp
  simp only [ho, resolve, invoke, builtin, Sem.run_bind, Sem.run_pure, Result.andThen_ok, List.map_toArray, List.map_cons, List.map_nil, hs, hx, hr]
  refine h ao' cap' w' ⟨by rw [List.length_append, ← hown.1, Array.length_toList]; rfl, ?_⟩ (below_grown hown.2 h3 hb)
  simpa [cellsOf, Lib.strCells] using h2

/-- string(b), b owned. -/
theorem Own.conv {w : World} {base : Nat} {ao : Option Addr} {n cap : Nat} {l : List UInt8} (h : Own w base ao n cap l) : (convert 48 9 (.slice ao n cap)).run Yba.prog w = .ok (.string ⟨l.toArray⟩) w := by
  obtain ⟨hn, hlen, h2⟩ := h
  rcases h2 with ⟨hv, h0⟩ | ⟨g, cap', cur, hv, hbg, hg, hnc, hcm, hcs, htake⟩
  · simp only [Value.slice.injEq] at hv
    obtain ⟨rfl, rfl, rfl⟩ := hv
    have : l = [] := by apply List.eq_nil_of_length_eq_zero; omega
    subst this
    exact run_convert_bytes_nil w 48 5 Yba.underlying48 Yba.underlying5 0 0 9 Yba.underlying9
  · simp only [Value.slice.injEq] at hv
    obtain ⟨rfl, _, rfl⟩ := hv
    have hc : ∀ i, i < n → w.cell? ⟨g, i, none⟩ = (cellsOf l)[i]? := fun i hi => World.ownsRow.cellAt (base := base) (e := 5) (size := 1) (cap := cap) ⟨hlen, .inr ⟨g, cap, cur, rfl, hbg, hg, hnc, hcm, hcs, htake⟩⟩ i (by omega)
    have := run_convert_bytes_arg (P := Yba.prog) w 48 5 Yba.underlying48 Yba.underlying5 g 0 n cap (l.map fun b => (b.toNat : Int)) (by simp [hn]) (fun i hi => by
      rw [Nat.zero_add, hc i hi]
      simp [cellsOf, List.getD, show i < l.length by omega]) 9 Yba.underlying9
    rw [this]
    congr 2
    unfold strOfNums
    rw [List.map_map]
    congr 2
    exact (List.map_congr_left fun b _ => by simp).trans (List.map_id l)

theorem Own.conv' {w : World} {base : Nat} {ao : Option Addr} {n cap : Nat} {l : List UInt8} (h : Own w base ao n cap l) : ∃ t : ByteArray, Hid (t.data.toList = l) ∧ (convert 48 9 (.slice ao n cap)).run Yba.prog w = .ok (.string t) w :=
  ⟨⟨l.toArray⟩, by show _ = l; simp, h.conv⟩
end Bytes
end Go.Proofs.Ybulkehgi
