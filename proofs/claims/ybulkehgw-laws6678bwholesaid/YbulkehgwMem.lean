/-
  Blocks of cells, what a step keeps, slices of bytes that are read. The buckets (f16, f23).
-/
import Derived.Test.YbulkehgwProg
import Derived.Test.YbulkehgwPl
import Derived.WalkKit
import Derived.WalkLawsBesides
import Derived.Deep.QuietTactic
import Derived.BigQuiet
import Derived.Laws.CopyOwn
import Derived.Laws.AppendOwn
import Derived.Laws.OwnMore
import Derived.Laws.AppendOwnNone
import Derived.ArgAppend
import Derived.OwnWalk
import Derived.WalkSpells
import Derived.Outline
import Derived.Below
import Derived.RegionTactic
namespace Go.Proofs.Ybulkehgw.Mem
open Go.RowKit Pl

theorem hid {p : Prop} (h : p) : Hid p := h
def Drawn (w w' : World) : Prop := ∃ n, w' = w.drewN n
theorem Drawn.refl (w : World) : Drawn w w := ⟨0, rfl⟩
theorem Drawn.more {w w' : World} (h : Drawn w w') (m : Nat) : Drawn w (w'.drewN m) := by obtain ⟨n, rfl⟩ := h; exact ⟨n + m, World.drewN_drewN ..⟩
theorem Drawn.heap {w w' : World} (h : Drawn w w') : w'.heap = w.heap := by obtain ⟨n, rfl⟩ := h; rfl
theorem Drawn.below {w w' : World} (h : Drawn w w') (B : Nat) : Below B w w' := by obtain ⟨n, rfl⟩ := h; exact below_drewN (Below.refl _ _) _

/-- Block b is a row of cells of type t, not frozen. -/
def Cl (w : World) (b : Nat) (t : TypeId) (cs : List Value) : Prop := w.heap[b]? = some (.cells cs.toArray t (0, 0))
theorem Cl.lt {w : World} {b : Nat} {t : TypeId} {cs : List Value} (h : Cl w b t cs) : b < w.heap.size := (Array.getElem?_eq_some_iff.1 h).1
theorem Cl.cell? {w : World} {b : Nat} {t : TypeId} {cs : List Value} (h : Cl w b t cs) (i : Nat) : w.cell? ⟨b, i, none⟩ = cs[i]? := by
  unfold Cl at h
  simp [World.cell?, h]
theorem Cl.cell {w : World} {b : Nat} {t : TypeId} {cs : List Value} (h : Cl w b t cs) (i : Nat) (hi : i < cs.length) : w.cell? ⟨b, i, none⟩ = some cs[i] := by
  rw [h.cell?, List.getElem?_eq_getElem hi]
theorem Cl.frozen {w : World} {b : Nat} {t : TypeId} {cs : List Value} (h : Cl w b t cs) (i : Nat) : w.frozen? ⟨b, i, none⟩ = false := frozen_of_row w b i _ t h
theorem Cl.set {w : World} {b : Nat} {t : TypeId} {cs : List Value} (h : Cl w b t cs) (i : Nat) (v : Value) : Cl (w.setCell ⟨b, i, none⟩ v) b t (cs.set i v) := by
  unfold Cl
  rw [heap_setCell_same w b i _ t v h]
  simp
theorem Cl.same {w w' : World} {b : Nat} {t : TypeId} {cs : List Value} (h : Cl w b t cs) (hb : w'.heap[b]? = w.heap[b]?) : Cl w' b t cs := hb.trans h
theorem Cl.below {w w' : World} {B b : Nat} {t : TypeId} {cs : List Value} (h : Cl w b t cs) (hb : Below B w w') (hlt : b < B) : Cl w' b t cs := h.same (hb.block b hlt)
theorem Cl.new (w : World) (t : TypeId) (cs : Array Value) : Cl (w.alloc (.cells cs t)) w.heap.size t cs.toList := by
  unfold Cl
  simpa using heap_alloc_new w (.cells cs t)
theorem Cl.ne {w : World} {b b' : Nat} {t t' : TypeId} {cs cs' : List Value} (h : Cl w b t cs) (h' : Cl w b' t' cs') (ht : t ≠ t') : b ≠ b' := fun e => by
  subst e
  unfold Cl at h h'
  rw [h] at h'
  injection h' with h'
  injection h' with _ h' _
  exact ht h'

structure Keeps (M : Nat → Prop) (w w' : World) : Prop where
  os : w'.os = w.os
  tape : w'.tape = w.tape
  output : w'.output = w.output
  size : w.heap.size ≤ w'.heap.size
  block : ∀ k, k < w.heap.size → ¬ M k → w'.heap[k]? = w.heap[k]?
theorem Keeps.refl (M : Nat → Prop) (w : World) : Keeps M w w := ⟨rfl, rfl, rfl, Nat.le_refl _, fun _ _ _ => rfl⟩
theorem Keeps.trans {M : Nat → Prop} {a b c : World} (h : Keeps M a b) (k : Keeps M b c) : Keeps M a c :=
  ⟨k.os.trans h.os, k.tape.trans h.tape, k.output.trans h.output, Nat.le_trans h.size k.size, fun i hi hm => (k.block i (Nat.lt_of_lt_of_le hi h.size) hm).trans (h.block i hi hm)⟩
theorem Keeps.mono {M N : Nat → Prop} {w w' : World} (h : Keeps M w w') (hm : ∀ k, k < w.heap.size → M k → N k) : Keeps N w w' := ⟨h.os, h.tape, h.output, h.size, fun k hk hn => h.block k hk fun hM => hn (hm k hk hM)⟩
theorem Keeps.of_grown {w w' : World} {row : Option Nat} (h : w.grownBy w' row) : Keeps (fun k => row = some k) w w' := ⟨h.os, h.tape, h.output, h.size, fun k hk hn => h.block k hk fun e => hn e.symm⟩
theorem Keeps.of_below {w w' : World} (h : Below w.heap.size w w') (M : Nat → Prop) : Keeps M w w' := ⟨h.os, h.tape, h.output, h.size, fun k hk _ => h.block k hk⟩
theorem Keeps.of_drawn {w w' : World} (h : Drawn w w') (M : Nat → Prop) : Keeps M w w' := Keeps.of_below (h.below _) M
theorem Keeps.alloc (w : World) (o : Obj) (M : Nat → Prop) : Keeps M w (w.alloc o) := Keeps.of_below ((Below.refl _ w).alloc (Nat.le_refl _) o) M
theorem Keeps.set (w : World) (a : Addr) (u : Value) {M : Nat → Prop} (h : M a.block) : Keeps M w (w.setCell a u) :=
  ⟨rfl, rfl, rfl, by simp, fun k _ hn => Below.heap_setCell w a u k fun e => hn (by rw [e]; exact h)⟩
theorem Keeps.below {M : Nat → Prop} {w w' : World} {B : Nat} (h : Keeps M w w') (hB : B ≤ w.heap.size) (hm : ∀ k, M k → B ≤ k) : Below B w w' :=
  ⟨h.os, h.tape, h.output, h.size, fun k hk => h.block k (by omega) fun hM => by have := hm k hM; omega⟩
theorem Keeps.cl {M : Nat → Prop} {w w' : World} (h : Keeps M w w') {b : Nat} {t : TypeId} {cs : List Value} (hc : Cl w b t cs) (hm : ¬ M b) : Cl w' b t cs := hc.same (h.block b hc.lt hm)

def u8 (n : Nat) : Value := .int .u8 (n : Int)
def u8s (bs : Bs) : List Value := bs.map u8
theorem u8s_len (bs : Bs) : (u8s bs).length = bs.length := by simp [u8s]

/-- The slice value v reads as the bytes bs. -/
def Rd (w : World) (b off : Nat) (bs : Bs) : Prop := ∀ k (h : k < bs.length), w.cell? ⟨b, off + k, none⟩ = some (u8 bs[k])
theorem Rd.below {w w' : World} {B b off : Nat} {bs : Bs} (h : Rd w b off bs) (hb : Below B w w') (hlt : b < B) : Rd w' b off bs := fun k hk => (hb.cell hlt).trans (h k hk)
theorem Rd.same {w w' : World} {b off : Nat} {bs : Bs} (h : Rd w b off bs) (hb : w'.heap[b]? = w.heap[b]?) : Rd w' b off bs := fun k hk => (World.cell?_of_block (w := w) hb).trans (h k hk)
theorem Rd.lt {w : World} {b off : Nat} {bs : Bs} (h : Rd w b off bs) (hne : 0 < bs.length) : b < w.heap.size := World.block_lt_of_cell? w _ (h 0 hne)
theorem Rd.drop {w : World} {b off : Nat} {bs : Bs} (h : Rd w b off bs) (n : Nat) : Rd w b (off + n) (bs.drop n) := fun k hk => by
  have hk' : n + k < bs.length := by rw [List.length_drop] at hk; omega
  have := h (n + k) hk'
  rw [List.getElem_drop, Nat.add_assoc]
  exact this
theorem Rd.take {w : World} {b off : Nat} {bs : Bs} (h : Rd w b off bs) (n : Nat) : Rd w b off (bs.take n) := fun k hk => by
  have hk' : k < bs.length := by rw [List.length_take] at hk; omega
  rw [List.getElem_take]
  exact h k hk'
theorem Cl.rd {w : World} {b : Nat} {t : TypeId} {cs : List Value} {bs : Bs} (h : Cl w b t cs) (hc : cs.take bs.length = u8s bs) : Rd w b 0 bs := fun k hk => by
  rw [Nat.zero_add, h.cell?]
  have := congrArg (fun l : List Value => l[k]?) hc
  simp only [List.getElem?_take, if_pos hk, u8s, List.getElem?_map, List.getElem?_eq_getElem hk, Option.map_some] at this
  exact this

theorem Drawn.cell {w w' : World} (h : Drawn w w') (a : Addr) : w'.cell? a = w.cell? a := by obtain ⟨n, rfl⟩ := h; rfl

theorem or256 (j c : Nat) (hj : j < 65536) (hc : c < 256) : bits .or .i64 ((j : Int) * 256) (c : Int) = ((stp j c : Nat) : Int) := by
  have e : ((j : Int) * 256) = ((j * 256 : Nat) : Int) := by omega
  have h0 : j * 256 ||| c = stp j c := by
    have := Nat.two_pow_add_eq_or_of_lt (i := 8) (b := c) hc j
    unfold stp
    have e1 : 2 ^ 8 * j = j * 256 := by omega
    rw [e1] at this
    exact this.symm
  have h1 : (BitVec.ofInt 64 ((j * 256 : Nat) : Int)).toNat = j * 256 := by
    rw [BitVec.ofInt_natCast, BitVec.toNat_ofNat]; exact Nat.mod_eq_of_lt (by omega)
  have h2 : (BitVec.ofInt 64 (c : Int)).toNat = c := by
    rw [BitVec.ofInt_natCast, BitVec.toNat_ofNat]; exact Nat.mod_eq_of_lt (by omega)
  rw [e]
  show IntKind.i64.wrap ((BitVec.ofInt 64 ((j * 256 : Nat) : Int) ||| BitVec.ofInt 64 (c : Int)).toNat : Int) = _
  rw [BitVec.toNat_or, h1, h2, h0, IntKind.wrap_i64]
  unfold stp
  omega
theorem bkt_small {bs : Bs} (hb : ∀ c ∈ bs, c < 256) {k : Nat} (hk : k ≤ bs.length) (h1 : k ≤ 1) : bkt k bs < 256 := by
  have := bkt_lt (size := bs.length) (p := bs) ⟨rfl, hb⟩ hk
  have h2 : 256 ^ k ≤ 256 := by
    have : k = 0 ∨ k = 1 := by omega
    rcases this with rfl | rfl <;> decide
  omega

set_option maxHeartbeats 1000000 in
theorem bucket_any (b off cap lead : Nat) (bs : Bs) (w : World) (h : Rd w b off bs) (hb : ∀ c ∈ bs, c < 256) (hl : lead ≤ bs.length) (h2 : lead ≤ 2) (hlen : bs.length ≤ 4) :
    Calls Yba.prog 16 #[.slice (some ⟨b, off, none⟩) bs.length cap, .int .i64 (lead : Int)] w fun e w' => e = .returned (.int .i64 (bkt lead bs : Int)) ∧ w' = w := by
  have HR := hid h
  clear h
  go_enter Yba.func16, Yba.ntmps16
  go_wp2
  go_loopw [5, 6] (fun j i wr => ∃ k : Nat, k ≤ lead ∧ i = .int .i64 k ∧ j = .int .i64 (bkt k bs : Int) ∧ w = wr) (fun _ i _ => lead - (intOf i).toNat)
  case atStart => exact ⟨0, Nat.zero_le _, rfl, rfl, rfl⟩
  case round =>
    obtain ⟨k, hk, rfl, rfl, rfl⟩ := hrel
    by_cases hlt : k < lead
    · have hkb : k < bs.length := by omega
      have c : w.cell? ⟨b, off + k, none⟩ = some (.int .u8 (bs[k] : Int)) := HR.out k hkb
      have hc := hb bs[k] (List.getElem_mem hkb)
      have hkv : bkt k bs < 256 := bkt_small hb (by omega) (by omega)
      have hnext := (or256 (bkt k bs) bs[k] (by omega) hc).trans (congrArg Nat.cast (bkt_succ k bs hkb).symm)
      obtain ⟨ck, hck⟩ : ∃ ck : Nat, bs[k] = ck := ⟨_, rfl⟩
      obtain ⟨jk, hjk⟩ : ∃ jk : Nat, bkt k bs = jk := ⟨_, rfl⟩
      rw [hck] at c hc hnext
      rw [hjk] at hkv hnext ⊢
      have HN := hid hnext
      clear hnext
      go_wp2
      go_roundw
      case rel => exact ⟨k + 1, by omega, by go_num, by rw [HN.out], trivial⟩
      case measure => simp [intOf]; omega
    · obtain rfl : k = lead := by omega
      go_wp2
      go_ret
      exact ⟨rfl, rfl⟩

set_option maxHeartbeats 1000000 in
theorem bucketOf_any (gb b off n cap lead : Nat) (bs : Bs) (w : World) (hg : w.cell? ⟨gb, 1, none⟩ = some (.int .i64 (lead : Int))) (h : Rd w b off bs) (hb : ∀ c ∈ bs, c < 256) (hl : lead ≤ bs.length) (h2 : lead ≤ 2) (hn : lead ≤ n) (hc : n ≤ cap) (hm : cap ≤ 9223372036854775807) :
    Calls Yba.prog 23 #[.pointer (some ⟨gb, 0, none⟩), .slice (some ⟨b, off, none⟩) n cap] w fun e w' => e = .returned (.int .i64 (bkt lead bs : Int)) ∧ w' = w := by
  have HR := hid h
  clear h
  go_enter Yba.func23, Yba.ntmps23
  go_wp2
  go_loopw [5, 7, 15] (fun j _ i wr => ∃ k : Nat, k ≤ lead ∧ i = .int .i64 k ∧ j = .int .i64 (bkt k bs : Int) ∧ w = wr) (fun _ _ i _ => lead - (intOf i).toNat)
  case atStart => exact ⟨0, Nat.zero_le _, rfl, rfl, rfl⟩
  case round =>
    obtain ⟨k, hk, rfl, rfl, rfl⟩ := hrel
    by_cases hlt : k < lead
    · have hkb : k < bs.length := by omega
      have c : w.cell? ⟨b, off + k, none⟩ = some (.int .u8 (bs[k] : Int)) := HR.out k hkb
      have hc := hb bs[k] (List.getElem_mem hkb)
      have hkv : bkt k bs < 256 := bkt_small hb (by omega) (by omega)
      have hnext := (or256 (bkt k bs) bs[k] (by omega) hc).trans (congrArg Nat.cast (bkt_succ k bs hkb).symm)
      obtain ⟨ck, hck⟩ : ∃ ck : Nat, bs[k] = ck := ⟨_, rfl⟩
      obtain ⟨jk, hjk⟩ : ∃ jk : Nat, bkt k bs = jk := ⟨_, rfl⟩
      rw [hck] at c hc hnext
      rw [hjk] at hkv hnext ⊢
      have HN := hid hnext
      clear hnext
      go_wp2
      go_roundw
      case rel => exact ⟨k + 1, by omega, by go_num, by rw [HN.out], trivial⟩
      case measure => simp [intOf]; omega
    · obtain rfl : k = lead := by omega
      go_wp2
      go_ret
      exact ⟨rfl, rfl⟩
end Go.Proofs.Ybulkehgw.Mem
