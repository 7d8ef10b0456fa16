/-
  readFields (f10), over each of the three carriers.
-/
import Derived.Test.YbulkehgiVals
namespace Go.Proofs.Ybulkehgi.ReadF
open Go.RowKit Fold Strs Spell SM Car Srt Vals

/-- The keys noted for the two names. -/
def notes1 (n1 : ByteArray) (l : List ByteArray) : List ByteArray := l.filter fun k => spellB k n1 && !decide (k.size = 0)
def notes2 (n1 n2 : ByteArray) (l : List ByteArray) : List ByteArray := l.filter fun k => !spellB k n1 && spellB k n2 && !decide (k.size = 0)
theorem notes1_snoc (n1 : ByteArray) (l : List ByteArray) (k : ByteArray) : notes1 n1 (l ++ [k]) = note1 n1 (notes1 n1 l) k := by
  unfold notes1 note1 addTo
  rw [List.filter_append]
  cases e1 : spellB k n1 <;> by_cases h : k.size = 0
  · simp only [List.filter_cons, List.filter_nil, e1, Bool.false_and, Bool.false_eq_true, if_false, List.append_nil]
  · simp only [List.filter_cons, List.filter_nil, e1, Bool.false_and, Bool.false_eq_true, if_false, List.append_nil]
  · simp only [List.filter_cons, List.filter_nil, e1, decide_eq_true h, Bool.not_true, Bool.and_false, Bool.false_eq_true, if_false, List.append_nil, if_pos h, if_true]
  · simp only [List.filter_cons, List.filter_nil, e1, decide_eq_false h, Bool.not_false, Bool.and_true, if_neg h, if_true]
theorem notes2_snoc (n1 n2 : ByteArray) (l : List ByteArray) (k : ByteArray) : notes2 n1 n2 (l ++ [k]) = note2 n1 n2 (notes2 n1 n2 l) k := by
  unfold notes2 note2 addTo
  rw [List.filter_append]
  cases e1 : spellB k n1 <;> cases e2 : spellB k n2 <;> by_cases h : k.size = 0
  · simp only [List.filter_cons, List.filter_nil, e1, e2, Bool.not_false, Bool.and_false, Bool.false_and, Bool.false_eq_true, if_false, List.append_nil]
  · simp only [List.filter_cons, List.filter_nil, e1, e2, Bool.not_false, Bool.and_false, Bool.false_and, Bool.false_eq_true, if_false, List.append_nil]
  · simp only [List.filter_cons, List.filter_nil, e1, e2, decide_eq_true h, Bool.not_true, Bool.not_false, Bool.and_true, Bool.and_false, Bool.false_eq_true, if_false, List.append_nil, if_pos h, if_true]
  · simp only [List.filter_cons, List.filter_nil, e1, e2, decide_eq_false h, Bool.not_false, Bool.and_true, Bool.false_eq_true, if_false, if_neg h, if_true]
  · simp only [List.filter_cons, List.filter_nil, e1, Bool.not_true, Bool.false_and, Bool.false_eq_true, if_false, if_true, List.append_nil]
  · simp only [List.filter_cons, List.filter_nil, e1, Bool.not_true, Bool.false_and, Bool.false_eq_true, if_false, if_true, List.append_nil]
  · simp only [List.filter_cons, List.filter_nil, e1, Bool.not_true, Bool.false_and, Bool.false_eq_true, if_false, if_true, List.append_nil]
  · simp only [List.filter_cons, List.filter_nil, e1, Bool.not_true, Bool.false_and, Bool.false_eq_true, if_false, if_true, List.append_nil]
theorem notes1_nil {n1 : ByteArray} (h : n1.size = 0) (l : List ByteArray) : notes1 n1 l = [] := by
  unfold notes1
  rw [List.filter_eq_nil_iff]
  intro k _ e
  simp only [Bool.and_eq_true, Bool.not_eq_true', decide_eq_false_iff_not] at e
  exact e.2 (by rw [spell_size e.1, h])
theorem notes2_nil {n1 n2 : ByteArray} (h : n2.size = 0) (l : List ByteArray) : notes2 n1 n2 l = [] := by
  unfold notes2
  rw [List.filter_eq_nil_iff]
  intro k _ e
  simp only [Bool.and_eq_true, Bool.not_eq_true', decide_eq_false_iff_not] at e
  exact e.2 (by rw [spell_size e.1.2, h])
theorem notes1_len (n1 : ByteArray) (l : List ByteArray) : (notes1 n1 l).length ≤ l.length := List.length_filter_le _ _
theorem notes2_len (n1 n2 : ByteArray) (l : List ByteArray) : (notes2 n1 n2 l).length ≤ l.length := List.length_filter_le _ _
theorem notes1_mem {n1 q : ByteArray} {l : List ByteArray} (h : q ∈ notes1 n1 l) : q ∈ l := (List.mem_filter.1 h).1
theorem notes2_mem {n1 n2 q : ByteArray} {l : List ByteArray} (h : q ∈ notes2 n1 n2 l) : q ∈ l := (List.mem_filter.1 h).1

/-- What stands in the loop over the keys: 'done' are noted. -/
structure Noting (w5 : World) (b1 p1 b2 p2 : Nat) (n1 n2 : ByteArray) (ch : Nat → Prop) (done : List ByteArray) (wr : World) : Prop where
  two : Two wr w5.heap.size p1 p2 (notes1 n1 done) (notes2 n1 n2 done)
  c1 : wr.cell? ⟨b1, 0, none⟩ = some (.string n1)
  c2 : wr.cell? ⟨b2, 0, none⟩ = some (.string n2)
  keeps : Keeps (fun k => k = p1 ∨ k = p2 ∨ ch k) w5 wr
theorem Noting.moved {w5 wr w' : World} {b1 p1 b2 p2 : Nat} {n1 n2 : ByteArray} {ch : Nat → Prop} {done : List ByteArray} {r : Nat} (h : Noting w5 b1 p1 b2 p2 n1 n2 ch done wr) (hg : wr.grownBy w' (some r)) (hr : r < w5.heap.size) (hch : ch r) (h1 : r ≠ p1) (h2 : r ≠ p2) (h3 : r ≠ b1) (h4 : r ≠ b2) : Noting w5 b1 p1 b2 p2 n1 n2 ch done w' where
  two := h.two.kept (Keeps.of_grown hg) (fun e => h1 (Option.some.inj e)) (fun e => h2 (Option.some.inj e)) fun k hk e => by have := Option.some.inj e; omega
  c1 := hg.cell h.c1 (by simp; omega)
  c2 := hg.cell h.c2 (by simp; omega)
  keeps := h.keeps.trans ((Keeps.of_grown hg).mono fun k _ e => .inr (.inr (Option.some.inj e ▸ hch)))
theorem Noting.noted {w5 wr w' : World} {b1 p1 b2 p2 : Nat} {n1 n2 q : ByteArray} {ch : Nat → Prop} {done : List ByteArray} (h : Noting w5 b1 p1 b2 p2 n1 n2 ch done wr) (ht : Two w' w5.heap.size p1 p2 (note1 n1 (notes1 n1 done) q) (note2 n1 n2 (notes2 n1 n2 done) q)) (hk : Keeps (Spell.Touch w5.heap.size p1 p2) wr w') (hb1 : b1 < w5.heap.size) (hb2 : b2 < w5.heap.size) (h1 : b1 ≠ p1) (h2 : b1 ≠ p2) (h3 : b2 ≠ p1) (h4 : b2 ≠ p2) : Noting w5 b1 p1 b2 p2 n1 n2 ch (done ++ [q]) w' where
  two := by rw [notes1_snoc, notes2_snoc]; exact ht
  c1 := (hk.cell (Nat.lt_of_lt_of_le hb1 h.keeps.size) (by rintro (e | e | e); exact h1 e; exact h2 e; simp at e; omega)).trans h.c1
  c2 := (hk.cell (Nat.lt_of_lt_of_le hb2 h.keeps.size) (by rintro (e | e | e); exact h3 e; exact h4 e; simp at e; omega)).trans h.c2
  keeps := ⟨hk.os.trans h.keeps.os, hk.tape.trans h.keeps.tape, hk.output.trans h.keeps.output, Nat.le_trans h.keeps.size hk.size, fun k hlt hn => (hk.block k (Nat.lt_of_lt_of_le hlt h.keeps.size) (by rintro (e | e | e); exact hn (.inl e); exact hn (.inr (.inl e)); omega)).trans (h.keeps.block k hlt hn)⟩

/-- The world in which the four variables of readFields are laid. -/
theorem Noting.start {w w5 : World} {n1 n2 : ByteArray} {ch M : Nat → Prop} (hM : ∀ k, w.heap.size ≤ k → ¬ M k) (h : Keeps M ((((w.alloc (.cells #[.string n1] 9)).alloc (.cells #[.string n2] 9)).alloc (.cells #[.string ⟨#[]⟩, .slice none 0 0] 53)).alloc (.cells #[.string ⟨#[]⟩, .slice none 0 0] 53)) w5) :
    Noting w5 w.heap.size (w.heap.size + 1 + 1) (w.heap.size + 1) (w.heap.size + 1 + 1 + 1) n1 n2 ch [] w5 := by
  have hsz : w.heap.size + 4 ≤ w5.heap.size := by have := h.size; simp at this; omega
  have hb : ∀ k, k < w.heap.size + 4 ∧ w.heap.size ≤ k → w5.heap[k]? = ((((w.alloc (.cells #[.string n1] 9)).alloc (.cells #[.string n2] 9)).alloc (.cells #[.string ⟨#[]⟩, .slice none 0 0] 53)).alloc (.cells #[.string ⟨#[]⟩, .slice none 0 0] 53)).heap[k]? := fun k hk => h.block k (by simp; omega) (hM k hk.2)
  have g0 : w5.heap[w.heap.size]? = some (.cells #[.string n1] 9 (0, 0)) := by
    rw [hb _ (by omega), heap_alloc_old _ _ (by simp only [World.size_alloc]; omega), heap_alloc_old _ _ (by simp only [World.size_alloc]; omega), heap_alloc_old _ _ (by simp only [World.size_alloc]; omega), heap_alloc_new]
  have g1 : w5.heap[w.heap.size + 1]? = some (.cells #[.string n2] 9 (0, 0)) := by
    rw [hb _ (by omega), heap_alloc_old _ _ (by simp only [World.size_alloc]; omega), heap_alloc_old _ _ (by simp only [World.size_alloc]; omega)]
    have := heap_alloc_new (w.alloc (.cells #[.string n1] 9)) (.cells #[.string n2] 9)
    simpa using this
  have g2 : w5.heap[w.heap.size + 1 + 1]? = some (.cells #[.string ⟨#[]⟩, .slice none 0 0] 53 (0, 0)) := by
    rw [hb _ (by omega), heap_alloc_old _ _ (by simp)]
    have := heap_alloc_new ((w.alloc (.cells #[.string n1] 9)).alloc (.cells #[.string n2] 9)) (.cells #[.string ⟨#[]⟩, .slice none 0 0] 53)
    simpa using this
  have g3 : w5.heap[w.heap.size + 1 + 1 + 1]? = some (.cells #[.string ⟨#[]⟩, .slice none 0 0] 53 (0, 0)) := by
    rw [hb _ (by omega)]
    have := heap_alloc_new (((w.alloc (.cells #[.string n1] 9)).alloc (.cells #[.string n2] 9)).alloc (.cells #[.string ⟨#[]⟩, .slice none 0 0] 53)) (.cells #[.string ⟨#[]⟩, .slice none 0 0] 53)
    simpa using this
  have sp : ∀ p, w5.heap[p]? = some (.cells #[.string ⟨#[]⟩, .slice none 0 0] 53 (0, 0)) → p < w5.heap.size → Sp w5 w5.heap.size p (.slice none 0 0) [] := fun p hp hlt =>
    ⟨by simp [World.cell?, hp], by simp [World.cell?, hp], by simp [World.frozen?, hp], by simp [World.frozen?, hp], by simp, Row.nil _ _ _, by simp, hlt, hlt⟩
  refine ⟨⟨_, _, sp _ g2 (by omega), sp _ g3 (by omega), by simp [Value.ownBlock]⟩, by simp [World.cell?, g0], by simp [World.cell?, g1], Keeps.refl _ _⟩

/-- What readFields hands back. -/
def ReadPost (w : World) (ch : Nat → Prop) (kv : KV) (n1 n2 : ByteArray) (e : Ending) (w' : World) : Prop :=
  ∃ r1 r2, e = .returned (.tuple #[r1, r2]) ∧ SS w' 0 r1 (strs (resOf kv (notes1 n1 (keys kv)))) ∧ (r1 = .slice none 0 0 ↔ resOf kv (notes1 n1 (keys kv)) = none) ∧
    SS w' 0 r2 (strs (resOf kv (notes2 n1 n2 (keys kv)))) ∧ (r2 = .slice none 0 0 ↔ resOf kv (notes2 n1 n2 (keys kv)) = none) ∧ Keeps ch w w'

theorem assertHH (b : Nat) (w : World) : (Instr.typeAssert (.iface 33 (.map (some b))) 30 33 true).run Yba.prog w = .ok (.tuple #[.map (some b), .bool true]) w := by kernel_rfl
theorem assertMH (b : Nat) (w : World) : (Instr.typeAssert (.iface 35 (.map (some b))) 30 33 true).run Yba.prog w = .ok (.tuple #[.map none, .bool false]) w := by kernel_rfl
theorem assertMM (b : Nat) (w : World) : (Instr.typeAssert (.iface 35 (.map (some b))) 30 35 true).run Yba.prog w = .ok (.tuple #[.map (some b), .bool true]) w := by kernel_rfl
theorem assertOH (b : Nat) (w : World) : (Instr.typeAssert (.iface 31 (.pointer (some ⟨b, 0, none⟩))) 30 33 true).run Yba.prog w = .ok (.tuple #[.map none, .bool false]) w := by kernel_rfl
theorem assertOM (b : Nat) (w : World) : (Instr.typeAssert (.iface 31 (.pointer (some ⟨b, 0, none⟩))) 30 35 true).run Yba.prog w = .ok (.tuple #[.map none, .bool false]) w := by kernel_rfl

theorem second {w5 wr w6 : World} {S p1 p2 : Nat} {v1 v2 : Value} {ss1 ss2 : List ByteArray} (a : Sp wr S p1 v1 ss1) (b : Sp wr S p2 v2 ss2) (c : ∀ k, v1.ownBlock = some k → v2.ownBlock ≠ some k) (h : Keeps (fun k => v1.ownBlock = some k) wr w6) (_h5 : w5.heap.size = S) : Sp w6 S p2 v2 ss2 :=
  b.kept h (fun e => by have := block_of_row a.row e; have := b.lt; omega) fun k hk e => c k e hk
theorem read_post {w wr w6 w7 : World} {S B p1 p2 : Nat} {v1 v2 r1 r2 : Value} {ss1 ss2 : List ByteArray} {kv : KV} {n1 n2 : ByteArray} {done : List ByteArray} {ch : Nat → Prop} (hd : done.Perm (keys kv)) (h1 : ss1 = notes1 n1 done) (h2 : ss2 = notes2 n1 n2 done) (a : Sp wr S p1 v1 ss1) (b : Sp wr S p2 v2 ss2) (hS : w.heap.size ≤ S) (hk : Keeps ch w wr) (_hB : B ≤ S)
    (x1 : SS w6 0 r1 (strs (resOf kv ss1))) (x2 : r1 = .slice none 0 0 ↔ resOf kv ss1 = none) (x3 : ∀ k, r1.ownBlock = some k → k < S ∨ wr.heap.size ≤ k) (x4 : Keeps (fun k => v1.ownBlock = some k) wr w6)
    (y1 : SS w7 0 r2 (strs (resOf kv ss2))) (y2 : r2 = .slice none 0 0 ↔ resOf kv ss2 = none) (y4 : Keeps (fun k => v2.ownBlock = some k) w6 w7) : ReadPost w ch kv n1 n2 (.returned (.tuple #[r1, r2])) w7 := by
  have e1 : resOf kv (notes1 n1 (keys kv)) = resOf kv ss1 := by rw [h1]; exact resOf_perm kv (hd.symm.filter _)
  have e2 : resOf kv (notes2 n1 n2 (keys kv)) = resOf kv ss2 := by rw [h2]; exact resOf_perm kv (hd.symm.filter _)
  refine ⟨r1, r2, rfl, ?_, ?_, ?_, ?_, ?_⟩
  · rw [e1]
    refine y4.row x1 fun k hr hv => ?_
    have l1 := block_of_row b.row hv
    have l2 := (b.row.row.lt hv).2
    rcases x3 k hr with h | h <;> omega
  · rw [e1]; exact x2
  · rw [e2]; exact y1
  · rw [e2]; exact y2
  · refine ⟨(y4.os.trans x4.os).trans hk.os, (y4.tape.trans x4.tape).trans hk.tape, (y4.output.trans x4.output).trans hk.output, Nat.le_trans hk.size (Nat.le_trans x4.size y4.size), fun k hlt hn => ?_⟩
    have l1 : k < wr.heap.size := Nat.lt_of_lt_of_le hlt hk.size
    refine (y4.block k (Nat.lt_of_lt_of_le l1 x4.size) fun e => ?_).trans ((x4.block k l1 fun e => ?_).trans (hk.block k hlt hn))
    · have := block_of_row b.row e; omega
    · have := block_of_row a.row e; omega

set_option maxHeartbeats 2000000 in
theorem readH (w : World) (B b : Nat) (n1 n2 : ByteArray) (kv : KV) (hC : CarH w B b kv) (hB : B ≤ w.heap.size) (hs : Small kv) (hkz : ∀ q ∈ keys kv, q.size ≤ 9223372036854775807) :
    Calls Yba.prog 10 #[.iface 33 (.map (some b)), .string n1, .string n2] w (ReadPost w (fun _ => False) kv n1 n2) := by
  have hgv := CarH.gives hC
  obtain ⟨hbB, l, hl, hlk, _⟩ := hC
  have t1 := assertHH b
  have hl4 := (((hl.alloc (.cells #[.string n1] 9)).alloc (.cells #[.string n2] 9)).alloc (.cells #[.string ⟨#[]⟩, .slice none 0 0] 53)).alloc (.cells #[.string ⟨#[]⟩, .slice none 0 0] 53)
  obtain ⟨w5, hrange, hran0, o, hw5⟩ := Ranging.start (P := Yba.prog) hl4 Yba.underlying33
  simp only [World.size_alloc] at hrange hran0
  have hn0 : Noting w5 w.heap.size (w.heap.size + 1 + 1) (w.heap.size + 1) (w.heap.size + 1 + 1 + 1) n1 n2 (fun k => k = w.heap.size + 1 + 1 + 1 + 1) [] w5 := Noting.start (M := fun _ => False) (fun _ _ h => h) (by rw [hw5]; exact Keeps.alloc _ _ _)
  have hsz5 : w5.heap.size = w.heap.size + 1 + 1 + 1 + 1 + 1 := by rw [hw5]; simp
  have hb5 : Below w.heap.size w w5 := by
    rw [hw5]
    exact (((((Below.refl _ w).alloc (Nat.le_refl _) _).alloc (by simp) _).alloc (by simp; omega) _).alloc (by simp; omega) _).alloc (by simp; omega) _
  have hkl : l.length = kv.length := by
    have := congrArg List.length hlk
    simpa [keys] using this
  have HB5 := hid hb5
  have HN0 := hid hn0
  have HR0 := hid hran0
  have HG := hid hgv
  have HLK := hid hlk
  have HKZ := hid hkz
  have HKL := hid hkl
  clear hl hl4 hw5 hn0 hran0 hgv hlk hkz hb5 hkl
  go_enter Yba.func10, Yba.ntmps10
  go_wp2
  go_loopg [12] l.length (fun gk _ wr => ∃ done : List (ByteArray × Value), gk = l.length - done.length ∧ Ranging wr (w.heap.size + 1 + 1 + 1 + 1) b l done ∧ Noting w5 w.heap.size (w.heap.size + 1 + 1) (w.heap.size + 1) (w.heap.size + 1 + 1 + 1) n1 n2 (fun k => k = w.heap.size + 1 + 1 + 1 + 1) (keys done) wr)
  case atStart => exact ⟨[], by simp, HR0.out, HN0.out⟩
  case round =>
    obtain ⟨done, hgk, hran, hnot⟩ := hrel
    have HGK := hid hgk
    have hlen := hran.len
    have hbne := hran.holds.lt
    rcases hran.next (P := Yba.prog) with ⟨hperm, hend⟩ | ⟨q, w6, hq, hqn, hg6, hran6, hnx, hent⟩
    · have hpk : (keys done).Perm (keys kv) := by rw [← HLK.out]; exact hperm.map _
      obtain ⟨v1, v2, ha, hb, hc⟩ := hnot.two
      have hkw : Keeps (fun _ => False) w wr := ⟨hnot.keeps.os.trans HB5.out.os, hnot.keeps.tape.trans HB5.out.tape, hnot.keeps.output.trans HB5.out.output, Nat.le_trans HB5.out.size hnot.keeps.size, fun k hk _ => (hnot.keeps.block k (by omega) (by rintro (e | e | e) <;> omega)).trans (HB5.out.block k hk)⟩
      have hg5 := HG.out.same (w1 := wr) fun j hj => hkw.block j (by omega) (fun h => h)
      have hS5 : w5.heap.size ≤ wr.heap.size := hnot.keeps.size
      have hm1 : ∀ x ∈ notes1 n1 (keys done), x ∈ keys kv := fun x hx => hpk.mem_iff.1 (notes1_mem hx)
      have hm2 : ∀ x ∈ notes2 n1 n2 (keys done), x ∈ keys kv := fun x hx => hpk.mem_iff.1 (notes2_mem hx)
      have hdl : (keys done).length ≤ 4096 := by rw [hpk.length_eq]; simpa [keys] using hs.1
      have hl1 := Nat.le_trans (notes1_len n1 (keys done)) hdl
      have hl2 := Nat.le_trans (notes2_len n1 n2 (keys done)) hdl
      have HA := hid ha
      have HB := hid hb
      have HCC := hid hc
      have HKW := hid hkw
      have HG5 := hid hg5
      have HPK := hid hpk
      have HM1 := hid hm1
      have HM2 := hid hm2
      clear ha hb hc hkw hg5 hpk hm1 hm2 hran hnot hperm hgk hlen hdl
      go_wp2_with fail
      refine (vals_any wr w5.heap.size B (w.heap.size + 1 + 1) 33 _ 65 v1 _ kv HA.out HG5.out (by omega) hS5 HM1.out hl1 hs).mono ?_
      rintro e w7 ⟨r1, rfl, x1, x2, x3, x4⟩
      have hb7 := second (w5 := w5) HA.out HB.out HCC.out x4 rfl
      have hg7 := HG5.out.same (w1 := w7) fun j hj => x4.block j (by omega) fun e => by have := block_of_row HA.out.row e; omega
      have hS7 : w5.heap.size ≤ w7.heap.size := Nat.le_trans hS5 x4.size
      have HB7 := hid hb7
      have HG7 := hid hg7
      have X1 := hid x1
      have X2 : Hid (r1 = .slice none 0 0 ↔ resOf kv (notes1 n1 (keys done)) = none) := x2
      have X3 := hid x3
      have X4 := hid x4
      clear x1 x2 x3 x4 hb7 hg7
      go_wp2_with fail
      refine (vals_any w7 w5.heap.size B (w.heap.size + 1 + 1 + 1) 33 _ 65 v2 _ kv HB7.out HG7.out (by omega) hS7 HM2.out hl2 hs).mono ?_
      rintro e w8 ⟨r2, rfl, y1, y2, y3, y4⟩
      have HP := hid (read_post (B := B) HPK.out rfl rfl HA.out HB.out (by omega) HKW.out (by omega) X1.out X2.out X3.out X4.out y1 y2 y4)
      clear y1 y2 y3 y4
      go_wp2
      go_ret2
      exact HP.out
    · have hn6 := hnot.moved hg6 (by omega) rfl (by omega) (by omega) (by omega) (by omega)
      have hqk : q.1 ∈ keys kv := by rw [← HLK.out]; exact List.mem_map.2 ⟨q, hq, rfl⟩
      have hqz := HKZ.out q.1 hqk
      have hdl : done.length ≤ 4096 := by have := HKL.out; have := hs.1; omega
      have hkd : (keys done).length = done.length := by simp [keys]
      have hl1 : (notes1 n1 (keys done)).length ≤ 1048576 := by have := notes1_len n1 (keys done); omega
      have hl2 : (notes2 n1 n2 (keys done)).length ≤ 1048576 := by have := notes2_len n1 n2 (keys done); omega
      have hS6 : w5.heap.size ≤ w6.heap.size := hn6.keeps.size
      have hlen6 := hran6.len
      have hcall := note_any w6 w5.heap.size w.heap.size (w.heap.size + 1 + 1) (w.heap.size + 1) (w.heap.size + 1 + 1 + 1) n1 n2 q.1 _ _ hn6.two (by omega) hS6 hn6.c1 hn6.c2 (fun h => notes1_nil h _) (fun h => notes2_nil h _) hl1 hl2 hqz
      have HCA := hid hcall
      have HN6 := hid hn6
      have HR6 := hid hran6
      clear hcall hn6 hran6 hran hnot hqn hq hqk hg6 hgk
      go_wp2_with fail
      refine HCA.out.mono ?_
      rintro e w7 ⟨rfl, ht, hk7⟩
      have hn7 := HN6.out.noted ht hk7 (by omega) (by omega) (by omega) (by omega) (by omega) (by omega)
      have hran7 : Ranging w7 (w.heap.size + 1 + 1 + 1 + 1) b l (done ++ [q]) := HR6.out.same (hk7.block _ (by omega) (by rintro (e | e | e) <;> omega)) (hk7.block _ (by omega) (by rintro (e | e | e) <;> omega))
      have HN7 := hid hn7
      have HR7 := hid hran7
      clear ht hk7 hn7 hran7
      go_wp2
      go_roundg (l.length - (done.length + 1))
      case measure => rw [HGK.out]; simp at hlen6; omega
      case rel => exact ⟨done ++ [q], by simp, HR7.out, by simpa [keys] using HN7.out⟩
set_option maxHeartbeats 2000000 in
theorem readM (w : World) (B b : Nat) (n1 n2 : ByteArray) (kv : KV) (hC : CarM w B b kv) (hB : B ≤ w.heap.size) (hs : Small kv) (hkz : ∀ q ∈ keys kv, q.size ≤ 9223372036854775807) :
    Calls Yba.prog 10 #[.iface 35 (.map (some b)), .string n1, .string n2] w (ReadPost w (fun _ => False) kv n1 n2) := by
  have hgv := CarM.gives hC
  obtain ⟨hbB, l, hl, hlk, _⟩ := hC
  have t0 := assertMH b
  have t1 := assertMM b
  have hl4 := (((hl.alloc (.cells #[.string n1] 9)).alloc (.cells #[.string n2] 9)).alloc (.cells #[.string ⟨#[]⟩, .slice none 0 0] 53)).alloc (.cells #[.string ⟨#[]⟩, .slice none 0 0] 53)
  obtain ⟨w5, hrange, hran0, o, hw5⟩ := Ranging.start (P := Yba.prog) hl4 Yba.underlying35
  simp only [World.size_alloc] at hrange hran0
  have hn0 : Noting w5 w.heap.size (w.heap.size + 1 + 1) (w.heap.size + 1) (w.heap.size + 1 + 1 + 1) n1 n2 (fun k => k = w.heap.size + 1 + 1 + 1 + 1) [] w5 := Noting.start (M := fun _ => False) (fun _ _ h => h) (by rw [hw5]; exact Keeps.alloc _ _ _)
  have hsz5 : w5.heap.size = w.heap.size + 1 + 1 + 1 + 1 + 1 := by rw [hw5]; simp
  have hb5 : Below w.heap.size w w5 := by
    rw [hw5]
    exact (((((Below.refl _ w).alloc (Nat.le_refl _) _).alloc (by simp) _).alloc (by simp; omega) _).alloc (by simp; omega) _).alloc (by simp; omega) _
  have hkl : l.length = kv.length := by
    have := congrArg List.length hlk
    simpa [keys] using this
  have HB5 := hid hb5
  have HN0 := hid hn0
  have HR0 := hid hran0
  have HG := hid hgv
  have HLK := hid hlk
  have HKZ := hid hkz
  have HKL := hid hkl
  clear hl hl4 hw5 hn0 hran0 hgv hlk hkz hb5 hkl
  go_enter Yba.func10, Yba.ntmps10
  go_wp2
  go_loopg [14] l.length (fun gk _ wr => ∃ done : List (ByteArray × Value), gk = l.length - done.length ∧ Ranging wr (w.heap.size + 1 + 1 + 1 + 1) b l done ∧ Noting w5 w.heap.size (w.heap.size + 1 + 1) (w.heap.size + 1) (w.heap.size + 1 + 1 + 1) n1 n2 (fun k => k = w.heap.size + 1 + 1 + 1 + 1) (keys done) wr)
  case atStart => exact ⟨[], by simp, HR0.out, HN0.out⟩
  case round =>
    obtain ⟨done, hgk, hran, hnot⟩ := hrel
    have HGK := hid hgk
    have hlen := hran.len
    have hbne := hran.holds.lt
    rcases hran.next (P := Yba.prog) with ⟨hperm, hend⟩ | ⟨q, w6, hq, hqn, hg6, hran6, hnx, hent⟩
    · have hpk : (keys done).Perm (keys kv) := by rw [← HLK.out]; exact hperm.map _
      obtain ⟨v1, v2, ha, hb, hc⟩ := hnot.two
      have hkw : Keeps (fun _ => False) w wr := ⟨hnot.keeps.os.trans HB5.out.os, hnot.keeps.tape.trans HB5.out.tape, hnot.keeps.output.trans HB5.out.output, Nat.le_trans HB5.out.size hnot.keeps.size, fun k hk _ => (hnot.keeps.block k (by omega) (by rintro (e | e | e) <;> omega)).trans (HB5.out.block k hk)⟩
      have hg5 := HG.out.same (w1 := wr) fun j hj => hkw.block j (by omega) (fun h => h)
      have hS5 : w5.heap.size ≤ wr.heap.size := hnot.keeps.size
      have hm1 : ∀ x ∈ notes1 n1 (keys done), x ∈ keys kv := fun x hx => hpk.mem_iff.1 (notes1_mem hx)
      have hm2 : ∀ x ∈ notes2 n1 n2 (keys done), x ∈ keys kv := fun x hx => hpk.mem_iff.1 (notes2_mem hx)
      have hdl : (keys done).length ≤ 4096 := by rw [hpk.length_eq]; simpa [keys] using hs.1
      have hl1 := Nat.le_trans (notes1_len n1 (keys done)) hdl
      have hl2 := Nat.le_trans (notes2_len n1 n2 (keys done)) hdl
      have HA := hid ha
      have HB := hid hb
      have HCC := hid hc
      have HKW := hid hkw
      have HG5 := hid hg5
      have HPK := hid hpk
      have HM1 := hid hm1
      have HM2 := hid hm2
      clear ha hb hc hkw hg5 hpk hm1 hm2 hran hnot hperm hgk hlen hdl
      go_wp2_with fail
      refine (vals_any wr w5.heap.size B (w.heap.size + 1 + 1) 35 _ 72 v1 _ kv HA.out HG5.out (by omega) hS5 HM1.out hl1 hs).mono ?_
      rintro e w7 ⟨r1, rfl, x1, x2, x3, x4⟩
      have hb7 := second (w5 := w5) HA.out HB.out HCC.out x4 rfl
      have hg7 := HG5.out.same (w1 := w7) fun j hj => x4.block j (by omega) fun e => by have := block_of_row HA.out.row e; omega
      have hS7 : w5.heap.size ≤ w7.heap.size := Nat.le_trans hS5 x4.size
      have HB7 := hid hb7
      have HG7 := hid hg7
      have X1 := hid x1
      have X2 : Hid (r1 = .slice none 0 0 ↔ resOf kv (notes1 n1 (keys done)) = none) := x2
      have X3 := hid x3
      have X4 := hid x4
      clear x1 x2 x3 x4 hb7 hg7
      go_wp2_with fail
      refine (vals_any w7 w5.heap.size B (w.heap.size + 1 + 1 + 1) 35 _ 72 v2 _ kv HB7.out HG7.out (by omega) hS7 HM2.out hl2 hs).mono ?_
      rintro e w8 ⟨r2, rfl, y1, y2, y3, y4⟩
      have HP := hid (read_post (B := B) HPK.out rfl rfl HA.out HB.out (by omega) HKW.out (by omega) X1.out X2.out X3.out X4.out y1 y2 y4)
      clear y1 y2 y3 y4
      go_wp2
      go_ret2
      exact HP.out
    · have hn6 := hnot.moved hg6 (by omega) rfl (by omega) (by omega) (by omega) (by omega)
      have hqk : q.1 ∈ keys kv := by rw [← HLK.out]; exact List.mem_map.2 ⟨q, hq, rfl⟩
      have hqz := HKZ.out q.1 hqk
      have hdl : done.length ≤ 4096 := by have := HKL.out; have := hs.1; omega
      have hkd : (keys done).length = done.length := by simp [keys]
      have hl1 : (notes1 n1 (keys done)).length ≤ 1048576 := by have := notes1_len n1 (keys done); omega
      have hl2 : (notes2 n1 n2 (keys done)).length ≤ 1048576 := by have := notes2_len n1 n2 (keys done); omega
      have hS6 : w5.heap.size ≤ w6.heap.size := hn6.keeps.size
      have hlen6 := hran6.len
      have hcall := note_any w6 w5.heap.size w.heap.size (w.heap.size + 1 + 1) (w.heap.size + 1) (w.heap.size + 1 + 1 + 1) n1 n2 q.1 _ _ hn6.two (by omega) hS6 hn6.c1 hn6.c2 (fun h => notes1_nil h _) (fun h => notes2_nil h _) hl1 hl2 hqz
      have HCA := hid hcall
      have HN6 := hid hn6
      have HR6 := hid hran6
      clear hcall hn6 hran6 hran hnot hqn hq hqk hg6 hgk
      go_wp2_with fail
      refine HCA.out.mono ?_
      rintro e w7 ⟨rfl, ht, hk7⟩
      have hn7 := HN6.out.noted ht hk7 (by omega) (by omega) (by omega) (by omega) (by omega) (by omega)
      have hran7 : Ranging w7 (w.heap.size + 1 + 1 + 1 + 1) b l (done ++ [q]) := HR6.out.same (hk7.block _ (by omega) (by rintro (e | e | e) <;> omega)) (hk7.block _ (by omega) (by rintro (e | e | e) <;> omega))
      have HN7 := hid hn7
      have HR7 := hid hran7
      clear ht hk7 hn7 hran7
      go_wp2
      go_roundg (l.length - (done.length + 1))
      case measure => rw [HGK.out]; simp at hlen6; omega
      case rel => exact ⟨done ++ [q], by simp, HR7.out, by simpa [keys] using HN7.out⟩

theorem methK (b : Nat) (w : World) : (method 210 31 (.pointer (some ⟨b, 0, none⟩)) "Keys").run Yba.prog w = .ok (60, .pointer (some ⟨b, 0, none⟩)) w := by kernel_rfl

def ReadPostO (w : World) (B ob : Nat) (kv : KV) (n1 n2 : ByteArray) (e : Ending) (w' : World) : Prop := ReadPost w (fun k => k = ob) kv n1 n2 e w' ∧ CarO w' B ob 1 kv

set_option maxHeartbeats 2000000 in
theorem readO (w : World) (B ob : Nat) (n1 n2 : ByteArray) (kv : KV) (hC : CarO w B ob 0 kv) (hB : B ≤ w.heap.size) (hs : Small kv) (hkz : ∀ q ∈ keys kv, q.size ≤ 9223372036854775807) :
    Calls Yba.prog 10 #[.iface 31 (.pointer (some ⟨ob, 0, none⟩)), .string n1, .string n2] w (ReadPostO w B ob kv n1 n2) := by
  have hobB : ob < B := by obtain ⟨_, _, _, h⟩ := hC; exact h.lt
  have t0 := assertOH ob
  have t1 := assertOM ob
  have t2 := methK ob
  obtain ⟨w4, hw4⟩ : ∃ w4, (((w.alloc (.cells #[.string n1] 9)).alloc (.cells #[.string n2] 9)).alloc (.cells #[.string ⟨#[]⟩, .slice none 0 0] 53)).alloc (.cells #[.string ⟨#[]⟩, .slice none 0 0] 53) = w4 := ⟨_, rfl⟩
  have hsz4 : w4.heap.size = w.heap.size + 1 + 1 + 1 + 1 := by rw [← hw4]; simp
  have hb4 : Below w.heap.size w w4 := by
    rw [← hw4]
    exact ((((Below.refl _ w).alloc (Nat.le_refl _) _).alloc (by simp) _).alloc (by simp; omega) _).alloc (by simp; omega) _
  have hkey := keysO w4 B ob kv (hC.same fun k hk => hb4.block k (by omega)) hs.1 (by omega)
  have hkl : (keys kv).length = kv.length := by simp [keys]
  have HB4 := hid hb4
  have HKE := hid hkey
  have HKZ := hid hkz
  have HKL := hid hkl
  have HW4 := hid hw4
  clear hb4 hkey hkz hkl hC
  go_enter Yba.func10, Yba.ntmps10
  go_wp2_with fail
  clear hw4
  refine HKE.out.mono ?_
  rintro e w5 ⟨ks, rfl, hks, hC5, hk5⟩
  have hn0 : Noting w5 w.heap.size (w.heap.size + 1 + 1) (w.heap.size + 1) (w.heap.size + 1 + 1 + 1) n1 n2 (fun _ => False) [] w5 := Noting.start (M := fun k => k = ob) (fun k hk e => by omega) (by rw [HW4.out]; exact hk5)
  have hsz5 : w.heap.size + 1 + 1 + 1 + 1 ≤ w5.heap.size := by have := hk5.size; omega
  have hkw5 : Keeps (fun k => k = ob) w w5 := (Keeps.of_below HB4.out _).trans hk5
  have hcells : ∃ ao cap, ks = .slice ao kv.length cap ∧ ∀ j (hj : j < (keys kv).length), ∃ g, ao = some ⟨g, 0, none⟩ ∧ w5.cell? ⟨g, j, none⟩ = some (.string (keys kv)[j]) ∧ g < w5.heap.size ∧ w4.heap.size ≤ g := by
    rcases hks.shape with ⟨rfl, he⟩ | ⟨g, cap, rfl, _, _, hge, hlt, hc⟩
    · have h0 : kv.length = 0 := by rw [← HKL.out, he]; rfl
      exact ⟨none, 0, by rw [h0], fun j hj => by rw [he] at hj; simp at hj⟩
    · exact ⟨_, cap, by rw [HKL.out], fun j hj => ⟨g, rfl, hc j hj, hlt, hge⟩⟩
  obtain ⟨ao, cap, rfl, hcells⟩ := hcells
  have HN0 := hid hn0
  have HCE := hid hcells
  have HC5 := hid hC5
  have HK5 := hid hkw5
  have hs1 := hs.1
  clear hn0 hcells hks hC5 hk5 hkw5
  go_wp2
  go_loopw [17, 23] (fun _ i wr => ∃ j : Nat, j ≤ kv.length ∧ i = .int .i64 j ∧ Noting w5 w.heap.size (w.heap.size + 1 + 1) (w.heap.size + 1) (w.heap.size + 1 + 1 + 1) n1 n2 (fun _ => False) ((keys kv).take j) wr) (fun _ i _ => kv.length - (intOf i).toNat)
  case atStart => exact ⟨0, Nat.zero_le _, rfl, by simpa using HN0.out⟩
  case round =>
    obtain ⟨j, hj, rfl, hnot⟩ := hrel
    by_cases hlt : j < kv.length
    · have hjk : j < (keys kv).length := by have := HKL.out; omega
      obtain ⟨g, rfl, hcj, hgl, hgg⟩ := HCE.out j hjk
      have cj : wr.cell? ⟨g, j, none⟩ = some (.string (keys kv)[j]) := (hnot.keeps.cell hgl (by rintro (e | e | e) <;> simp only at e <;> omega)).trans hcj
      have hqz := HKZ.out (keys kv)[j] (List.getElem_mem hjk)
      have hl1 : (notes1 n1 ((keys kv).take j)).length ≤ 1048576 := by have := notes1_len n1 ((keys kv).take j); rw [List.length_take] at this; omega
      have hl2 : (notes2 n1 n2 ((keys kv).take j)).length ≤ 1048576 := by have := notes2_len n1 n2 ((keys kv).take j); rw [List.length_take] at this; omega
      have hS6 : w5.heap.size ≤ wr.heap.size := hnot.keeps.size
      have hcall := note_any wr w5.heap.size w.heap.size (w.heap.size + 1 + 1) (w.heap.size + 1) (w.heap.size + 1 + 1 + 1) n1 n2 (keys kv)[j] _ _ hnot.two (by omega) hS6 hnot.c1 hnot.c2 (fun h => notes1_nil h _) (fun h => notes2_nil h _) hl1 hl2 hqz
      have htk : (keys kv).take (j + 1) = (keys kv).take j ++ [(keys kv)[j]] := by rw [List.take_add_one, List.getElem?_eq_getElem hjk]; rfl
      have HCA := hid hcall
      have HN6 := hid hnot
      have HTK := hid htk
      clear hcall hnot hcj htk
      go_wp2_with fail
      refine HCA.out.mono ?_
      rintro e w7 ⟨rfl, ht, hk7⟩
      have hn7 := HN6.out.noted ht hk7 (by omega) (by omega) (by omega) (by omega) (by omega) (by omega)
      rw [← HTK.out] at hn7
      have HN7 := hid hn7
      clear ht hk7 hn7
      go_wp2
      go_roundw
      case rel => exact ⟨j + 1, by omega, by go_num, HN7.out⟩
      case measure => simp [intOf]; omega
    · have htk : (keys kv).take j = keys kv := List.take_of_length_le (by have := HKL.out; omega)
      rw [htk] at hnot
      obtain ⟨v1, v2, ha, hb, hc⟩ := hnot.two
      have hkr : Keeps (fun k => k = ob) w wr := ⟨hnot.keeps.os.trans HK5.out.os, hnot.keeps.tape.trans HK5.out.tape, hnot.keeps.output.trans HK5.out.output, Nat.le_trans HK5.out.size hnot.keeps.size, fun k hk hne => (hnot.keeps.block k (by omega) (by rintro (e | e | e); omega; omega; exact e)).trans (HK5.out.block k hk hne)⟩
      have hC6 : CarO wr B ob 1 kv := HC5.out.same fun k hk => hnot.keeps.block k (by omega) (by rintro (e | e | e); omega; omega; exact e)
      have hg5 := CarO.gives hC6 hs.1
      have hS5 : w5.heap.size ≤ wr.heap.size := hnot.keeps.size
      have hdl : (keys kv).length ≤ 4096 := by have := HKL.out; omega
      have hl1 := Nat.le_trans (notes1_len n1 (keys kv)) hdl
      have hl2 := Nat.le_trans (notes2_len n1 n2 (keys kv)) hdl
      have HA := hid ha
      have HB := hid hb
      have HCC := hid hc
      have HKW := hid hkr
      have HG5 := hid hg5
      have HC6 := hid hC6
      clear ha hb hc hkr hg5 hnot hdl hC6
      go_wp2_with fail
      refine (vals_any wr w5.heap.size B (w.heap.size + 1 + 1) 31 _ 62 v1 _ kv HA.out HG5.out (by omega) hS5 (fun x hx => notes1_mem hx) hl1 hs).mono ?_
      rintro e w7 ⟨r1, rfl, x1, x2, x3, x4⟩
      have hb7 := second (w5 := w5) HA.out HB.out HCC.out x4 rfl
      have hsm : ∀ j, j < B → w7.heap[j]? = wr.heap[j]? := fun j hj => x4.block j (by omega) fun e => by have := block_of_row HA.out.row e; omega
      have hg7 := HG5.out.same (w1 := w7) hsm
      have hS7 : w5.heap.size ≤ w7.heap.size := Nat.le_trans hS5 x4.size
      have HB7 := hid hb7
      have HG7 := hid hg7
      have HSM := hid hsm
      have X1 := hid x1
      have X2 : Hid (r1 = .slice none 0 0 ↔ resOf kv (notes1 n1 (keys kv)) = none) := x2
      have X3 := hid x3
      have X4 := hid x4
      clear x1 x2 x3 x4 hb7 hg7 hsm
      go_wp2_with fail
      refine (vals_any w7 w5.heap.size B (w.heap.size + 1 + 1 + 1) 31 _ 62 v2 _ kv HB7.out HG7.out (by omega) hS7 (fun x hx => notes2_mem hx) hl2 hs).mono ?_
      rintro e w8 ⟨r2, rfl, y1, y2, y3, y4⟩
      have hC8 : CarO w8 B ob 1 kv := HC6.out.same fun k hk => (y4.block k (by omega) fun e => by have := block_of_row HB.out.row e; omega).trans (HSM.out k hk)
      have HP := hid (read_post (B := B) (List.Perm.refl (keys kv)) rfl rfl HA.out HB.out (by omega) HKW.out (by omega) X1.out X2.out X3.out X4.out y1 y2 y4)
      have HC8 := hid hC8
      clear y1 y2 y3 y4 hC8
      go_wp2
      go_ret2
      exact ⟨HP.out, HC8.out⟩
end Go.Proofs.Ybulkehgi.ReadF
