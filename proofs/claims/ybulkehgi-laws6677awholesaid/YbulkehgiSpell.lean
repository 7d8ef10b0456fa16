/-
  (*spellings).add (f19) and readFields$1 (f17): what the two spellings hold.
-/
import Derived.Test.YbulkehgiSort
namespace Go.Proofs.Ybulkehgi.Spell
open Go.RowKit Fold Strs

/-- All blocks but those of M are as they were. -/
structure Keeps (M : Nat → Prop) (w w' : World) : Prop where
  os : w'.os = w.os
  tape : w'.tape = w.tape
  output : w'.output = w.output
  size : w.heap.size ≤ w'.heap.size
  block : ∀ k, k < w.heap.size → ¬ M k → w'.heap[k]? = w.heap[k]?
theorem Keeps.refl (M : Nat → Prop) (w : World) : Keeps M w w := ⟨rfl, rfl, rfl, Nat.le_refl _, fun _ _ _ => rfl⟩
theorem Keeps.trans {M : Nat → Prop} {a b c : World} (h : Keeps M a b) (k : Keeps M b c) : Keeps M a c :=
  ⟨k.os.trans h.os, k.tape.trans h.tape, k.output.trans h.output, Nat.le_trans h.size k.size, fun i hi hm => (k.block i (Nat.lt_of_lt_of_le hi h.size) hm).trans (h.block i hi hm)⟩
theorem Keeps.mono {M N : Nat → Prop} {w w' : World} (h : Keeps M w w') (hm : ∀ k, k < w.heap.size → M k → N k) : Keeps N w w' := ⟨h.os, h.tape, h.output, h.size, fun k hk hn => h.block k hk fun hM => hn (hm k hk hM)⟩
theorem Keeps.of_grown {w w' : World} {row : Option Nat} (h : w.grownBy w' row) : Keeps (fun k => row = some k) w w' := ⟨h.os, h.tape, h.output, h.size, fun k hk hn => h.block k hk fun e => hn e.symm⟩
theorem Keeps.of_below {w w' : World} (h : Below w.heap.size w w') (M : Nat → Prop) : Keeps M w w' := ⟨h.os, h.tape, h.output, h.size, fun k hk _ => h.block k hk⟩
theorem Keeps.of_drawn {w w' : World} (h : Drawn w w') (M : Nat → Prop) : Keeps M w w' := Keeps.of_below (h.below _) M
theorem Keeps.alloc (w : World) (o : Obj) (M : Nat → Prop) : Keeps M w (w.alloc o) := Keeps.of_below ((Below.refl _ w).alloc (Nat.le_refl _) o) M
theorem Keeps.set (w : World) (a : Addr) (u : Value) {M : Nat → Prop} (h : M a.block) : Keeps M w (w.setCell a u) :=
  ⟨rfl, rfl, rfl, by simp, fun k _ hn => Below.heap_setCell w a u k fun e => hn (by rw [e]; exact h)⟩
theorem Keeps.below {M : Nat → Prop} {w w' : World} {B : Nat} (h : Keeps M w w') (hB : B ≤ w.heap.size) (hm : ∀ k, M k → B ≤ k) : Below B w w' :=
  ⟨h.os, h.tape, h.output, h.size, fun k hk => h.block k (by omega) fun hM => by have := hm k hM; omega⟩
theorem Keeps.cell {M : Nat → Prop} {w w' : World} (h : Keeps M w w') {a : Addr} (ha : a.block < w.heap.size) (hm : ¬ M a.block) : w'.cell? a = w.cell? a := World.cell?_of_block (h.block _ ha hm)
theorem Keeps.frozen {M : Nat → Prop} {w w' : World} (h : Keeps M w w') {a : Addr} (ha : a.block < w.heap.size) (hm : ¬ M a.block) : w'.frozen? a = w.frozen? a := World.frozen?_of_block (h.block _ ha hm)
theorem Keeps.row {M : Nat → Prop} {w w' : World} (h : Keeps M w w') {B : Nat} {e : TypeId} {v : Value} {xs : List Value} (hr : Row w B e v xs) (hm : ∀ k, v.ownBlock = some k → ¬ M k) : Row w' B e v xs := hr.same fun k hk => h.block k (hr.lt hk).2 (hm k hk)

/-- The struct in block p holds the spellings ss; its other spellings lie in v. -/
structure Sp (w : World) (S p : Nat) (v : Value) (ss : List ByteArray) : Prop where
  first : w.cell? ⟨p, 0, none⟩ = some (.string (ss.headD ⟨#[]⟩))
  other : w.cell? ⟨p, 1, none⟩ = some v
  fr0 : w.frozen? ⟨p, 0, none⟩ = false
  fr1 : w.frozen? ⟨p, 1, none⟩ = false
  full : ∀ s ∈ ss, s.size ≠ 0
  row : SS w S v ss.tail
  isNil : v = .slice none 0 0 ↔ ss.tail = []
  lt : p < S
  ex : p < w.heap.size
theorem Sp.kept {M : Nat → Prop} {w w' : World} {S p : Nat} {v : Value} {ss : List ByteArray} (h : Sp w S p v ss) (hk : Keeps M w w') (hp : ¬ M p) (hv : ∀ k, v.ownBlock = some k → ¬ M k) : Sp w' S p v ss :=
  ⟨(hk.cell h.ex hp).trans h.first, (hk.cell h.ex hp).trans h.other, (hk.frozen h.ex hp).trans h.fr0, (hk.frozen h.ex hp).trans h.fr1, h.full, hk.row h.row hv, h.isNil, h.lt, Nat.lt_of_lt_of_le h.ex hk.size⟩

def addTo (ss : List ByteArray) (k : ByteArray) : List ByteArray := if k.size = 0 then ss else ss ++ [k]

/-- What add leaves. -/
def Added (w : World) (S p : Nat) (v : Value) (ss : List ByteArray) (w' : World) : Prop :=
  ∃ v', Sp w' S p v' ss ∧ Keeps (fun k => k = p ∨ v.ownBlock = some k) w w' ∧ (v'.ownBlock = v.ownBlock ∨ ∀ k, v'.ownBlock = some k → w.heap.size ≤ k)

theorem eq_empty {k : ByteArray} (h : k.size = 0) : k = ⟨#[]⟩ := by
  cases k with
  | mk d =>
    have : d.size = 0 := h
    rw [Array.eq_empty_of_size_eq_zero this]

theorem isEmpty_size (s : ByteArray) : s.toList.isEmpty = true ↔ s.size = 0 := by
  rw [ByteArray.toList_eq, List.isEmpty_iff]
  constructor
  · intro h
    rw [← len_at, h]
    rfl
  · intro h
    exact List.eq_nil_of_length_eq_zero (by rw [len_at]; exact h)
theorem notEmpty {s : ByteArray} (h : s.size ≠ 0) : s.toList.isEmpty = false := by
  cases e : s.toList.isEmpty with
  | false => rfl
  | true => exact absurd ((isEmpty_size s).1 e) h
theorem block_of_row {w : World} {B : Nat} {v : Value} {xs : List Value} (h : Row w B 9 v xs) {k : Nat} (hk : v.ownBlock = some k) : B ≤ k := (h.lt hk).1

theorem sp_stored {w : World} {S p : Nat} {v : Value} {k : ByteArray} (h : Sp w S p v []) : Added w S p v (addTo [] k) (w.setCell ⟨p, 0, none⟩ (.string k)) := by
  have hkeep : Keeps (fun b => b = p ∨ v.ownBlock = some b) w (w.setCell ⟨p, 0, none⟩ (.string k)) := Keeps.set _ _ _ (.inl rfl)
  refine ⟨v, ⟨?_, ?_, ?_, ?_, ?_, ?_, ?_, h.lt, by simpa using h.ex⟩, hkeep, .inl rfl⟩
  · rw [World.cell?_setCell_same (h := h.first)]
    unfold addTo
    by_cases e : k.size = 0
    · rw [if_pos e, eq_empty e]; rfl
    · rw [if_neg e]; rfl
  · rw [World.cell?_setCell_other (h := by simp)]; exact h.other
  · rw [World.frozen?_setCell]; exact h.fr0
  · rw [World.frozen?_setCell]; exact h.fr1
  · unfold addTo
    by_cases e : k.size = 0
    · rw [if_pos e]; simp
    · rw [if_neg e]; simpa using e
  · have : (addTo [] k).tail = [] := by unfold addTo; split <;> rfl
    rw [this]
    have hv : v = .slice none 0 0 := h.isNil.2 rfl
    subst hv
    exact Row.nil _ _ _
  · have : (addTo [] k).tail = [] := by unfold addTo; split <;> rfl
    rw [this]
    exact h.isNil

theorem Sp.away {w : World} {S p : Nat} {v : Value} {ss : List ByteArray} (h : Sp w S p v ss) : v.ownBlock ≠ some p := fun e => by
  have := block_of_row h.row e
  have := h.lt
  omega
theorem Sp.pushed {w w' : World} {S p : Nat} {v v' : Value} {s0 k : ByteArray} {r : List ByteArray} {o : Obj} (h : Sp w S p v (s0 :: r)) (hk : k.size ≠ 0) (hg : (w.alloc o).grownBy w' v.ownBlock)
    (hr : Row w' S 9 v' (r.map Value.string ++ [.string k])) (hn : ¬ v' = .slice none 0 0) (hp : v'.ownBlock = v.ownBlock ∨ ∀ k, v'.ownBlock = some k → w.heap.size + 1 ≤ k) :
    w'.cell? ⟨p, 1, none⟩ = some v ∧ w'.frozen? ⟨p, 1, none⟩ = false ∧ Added w S p v (addTo (s0 :: r) k) (w'.setCell ⟨p, 1, none⟩ v') := by
  have k0 : Keeps (fun b => v.ownBlock = some b) w w' := (Keeps.alloc w o _).trans (Keeps.of_grown hg)
  have d1 : w'.cell? ⟨p, 1, none⟩ = some v := (k0.cell h.ex h.away).trans h.other
  have d2 : w'.frozen? ⟨p, 1, none⟩ = false := (k0.frozen h.ex h.away).trans h.fr1
  have d0 : w'.cell? ⟨p, 0, none⟩ = some (.string s0) := (k0.cell h.ex h.away).trans h.first
  have d3 : w'.frozen? ⟨p, 0, none⟩ = false := (k0.frozen h.ex h.away).trans h.fr0
  have k1 : Keeps (fun b => b = p ∨ v.ownBlock = some b) w (w'.setCell ⟨p, 1, none⟩ v') := (k0.mono fun _ _ h => .inr h).trans (Keeps.set _ _ _ (.inl rfl))
  refine ⟨d1, d2, v', ⟨?_, ?_, ?_, ?_, ?_, ?_, ?_, h.lt, by simpa using Nat.lt_of_lt_of_le h.ex k0.size⟩, k1, ?_⟩
  · rw [World.cell?_setCell_other (h := by simp), d0]
    unfold addTo
    rw [if_neg hk]
    rfl
  · rw [World.cell?_setCell_same (h := d1)]
  · rw [World.frozen?_setCell]; exact d3
  · rw [World.frozen?_setCell]; exact d2
  · unfold addTo
    rw [if_neg hk]
    intro s hs
    rcases List.mem_append.1 hs with hs | hs
    · exact h.full s hs
    · rw [List.mem_singleton.1 hs]; exact hk
  · unfold addTo
    rw [if_neg hk]
    have : Row (w'.setCell ⟨p, 1, none⟩ v') S 9 v' (r.map Value.string ++ [.string k]) := by
      refine (Keeps.set w' ⟨p, 1, none⟩ v' (M := fun b => b = p) rfl).row hr fun b hb e => ?_
      subst e
      have := block_of_row hr hb
      have := h.lt
      omega
    simpa [SS] using this
  · unfold addTo
    rw [if_neg hk]
    simp [hn]
  · rcases hp with h | h
    · exact .inl h
    · exact .inr fun b hb => Nat.le_of_succ_le (h b hb)

set_option maxHeartbeats 1000000 in
theorem add_any (w : World) (S p : Nat) (v : Value) (ss : List ByteArray) (k : ByteArray) (h : Sp w S p v ss) (hk : k.size = 0 → ss = []) (hS : S ≤ w.heap.size) (hl : ss.length ≤ 1048576) :
    Calls Yba.prog 19 #[.pointer (some ⟨p, 0, none⟩), .string k] w fun e w' => e = .returned (.tuple #[]) ∧ Added w S p v (addTo ss k) w' := by
  obtain ⟨i0, hi, hz0, hz1, hz2⟩ := info_parts Yba.rowInfo9
  cases ss with
  | nil =>
    have c0 : w.cell? ⟨p, 0, none⟩ = some (.string ⟨#[]⟩) := h.first
    have f0 := h.fr0
    have H := hid h
    clear h hk
    go_enter Yba.func19, Yba.ntmps19
    go_wp2
    go_end0
    exact ⟨rfl, sp_stored H.out⟩
  | cons s0 r =>
    have hk0 : k.size ≠ 0 := fun e => by cases hk e
    have c0 : w.cell? ⟨p, 0, none⟩ = some (.string s0) := h.first
    have c1 := h.other
    have f1 := h.fr1
    have hs0 := notEmpty (h.full s0 List.mem_cons_self)
    have hlt := h.ex
    have hone : Row (w.alloc (.cells #[.string k] 9)) 0 9 (.slice (some ⟨w.heap.size, 0, none⟩) 1 1) [.string k] := Row.lit w 0 9 #[.string k] (Nat.zero_le _) (by simp [maxLen])
    have hrow : Row (w.alloc (.cells #[.string k] 9)) S 9 v (r.map Value.string) := (Keeps.alloc w _ fun _ => False).row h.row (fun _ _ h => h)
    have hlen : (r.map Value.string).length ≤ 1048576 := by
      rw [List.length_map]
      simp only [List.length_cons] at hl
      omega
    have H := hid h
    have HK := hid hk0
    have h1c : ∀ u ∈ [Value.string k], u.oneCell' = true := cells_strs [k]
    clear h hk hk0 hl
    go_enter Yba.func19, Yba.ntmps19
    go_wp2_with (at_builtin; refine wpList_app rfl _ _ 23 rfl S 9 i0 _ 16 Yba.underlying23 hi hz0 hz1 hz2 rfl _ _ rfl rfl (r.map Value.string) [.string k] hrow hone h1c (by simp [maxLen] at hlen ⊢; omega) (by simp at hlen ⊢; omega) (by simp; omega) ?_)
    intro v' w' hr hg hnil hpl
    obtain ⟨d1, d2, hadd⟩ := H.out.pushed HK.out hg hr hnil hpl
    obtain ⟨ao, n', c', rfl⟩ : ∃ ao n' c', v' = .slice ao n' c' := by
      rcases hr.form with ⟨rfl, _⟩ | ⟨g, cap, cur, rfl, _⟩
      · exact ⟨_, _, _, rfl⟩
      · exact ⟨_, _, _, rfl⟩
    have HA := hid hadd
    clear hr hg hnil hpl hone hrow hadd
    go_wp2
    go_end0
    exact ⟨rfl, HA.out⟩

/-- Both spellings, apart. -/
def Two (w : World) (S p1 p2 : Nat) (ss1 ss2 : List ByteArray) : Prop := ∃ v1 v2, Sp w S p1 v1 ss1 ∧ Sp w S p2 v2 ss2 ∧ ∀ k, v1.ownBlock = some k → v2.ownBlock ≠ some k
def Touch (S p1 p2 : Nat) (b : Nat) : Prop := b = p1 ∨ b = p2 ∨ S ≤ b
theorem Two.kept {M : Nat → Prop} {w w' : World} {S p1 p2 : Nat} {ss1 ss2 : List ByteArray} (h : Two w S p1 p2 ss1 ss2) (hk : Keeps M w w') (h1 : ¬ M p1) (h2 : ¬ M p2) (hS : ∀ k, S ≤ k → ¬ M k) : Two w' S p1 p2 ss1 ss2 := by
  obtain ⟨v1, v2, a, b, c⟩ := h
  exact ⟨v1, v2, a.kept hk h1 fun k e => hS k (block_of_row a.row e), b.kept hk h2 fun k e => hS k (block_of_row b.row e), c⟩
theorem Two.kept_in {M : Nat → Prop} {w w' : World} {S p1 p2 : Nat} {ss1 ss2 : List ByteArray} (h : Two w S p1 p2 ss1 ss2) (hk : Keeps M w w') (hM : ∀ k, k < w.heap.size → ¬ M k) : Two w' S p1 p2 ss1 ss2 := by
  obtain ⟨v1, v2, a, b, c⟩ := h
  exact ⟨v1, v2, a.kept hk (hM _ a.ex) fun k e => hM _ (a.row.row.lt e).2, b.kept hk (hM _ b.ex) fun k e => hM _ (b.row.row.lt e).2, c⟩
theorem Two.add1 {w w1 w' : World} {S p1 p2 : Nat} {ss1 ss2 ss : List ByteArray} {v1 v2 : Value} (a : Sp w1 S p1 v1 ss1) (b : Sp w1 S p2 v2 ss2) (c : ∀ k, v1.ownBlock = some k → v2.ownBlock ≠ some k) (hne : p1 ≠ p2) (hd : Keeps (Touch S p1 p2) w w1) (h : Added w1 S p1 v1 ss w') : Two w' S p1 p2 ss ss2 ∧ Keeps (Touch S p1 p2) w w' := by
  obtain ⟨v', h1, h2, h3⟩ := h
  refine ⟨⟨v', v2, h1, b.kept h2 ?_ ?_, ?_⟩, hd.trans (h2.mono ?_)⟩
  · rintro (h | h)
    · exact hne h.symm
    · have := block_of_row a.row h; have := b.lt; omega
  · rintro k hk (h | h)
    · have := block_of_row b.row hk; have := a.lt; omega
    · exact c k h hk
  · intro k hk hk2
    rcases h3 with h3 | h3
    · exact c k (h3 ▸ hk) hk2
    · have := h3 k hk
      have := (b.row.row.lt hk2).2
      omega
  · rintro k _ (h | h)
    · exact .inl h
    · exact .inr (.inr (block_of_row a.row h))
theorem Two.swap {w : World} {S p1 p2 : Nat} {ss1 ss2 : List ByteArray} (h : Two w S p1 p2 ss1 ss2) : Two w S p2 p1 ss2 ss1 := by
  obtain ⟨v1, v2, a, b, c⟩ := h
  exact ⟨v2, v1, b, a, fun k h1 h2 => c k h2 h1⟩

def note1 (n1 : ByteArray) (ss : List ByteArray) (k : ByteArray) : List ByteArray := if spellB k n1 = true then addTo ss k else ss
def note2 (n1 n2 : ByteArray) (ss : List ByteArray) (k : ByteArray) : List ByteArray := if spellB k n1 = true then ss else if spellB k n2 = true then addTo ss k else ss
theorem spell_size {a b : ByteArray} (h : spellB a b = true) : a.size = b.size := ((spellB_iff a b).1 h).1

set_option maxHeartbeats 1000000 in
theorem note_any (w : World) (S b1 p1 b2 p2 : Nat) (n1 n2 k : ByteArray) (ss1 ss2 : List ByteArray) (h : Two w S p1 p2 ss1 ss2) (hne : p1 ≠ p2) (hS : S ≤ w.heap.size)
    (c1 : w.cell? ⟨b1, 0, none⟩ = some (.string n1)) (c2 : w.cell? ⟨b2, 0, none⟩ = some (.string n2)) (h1 : n1.size = 0 → ss1 = []) (h2 : n2.size = 0 → ss2 = []) (hl1 : ss1.length ≤ 1048576) (hl2 : ss2.length ≤ 1048576) (hk : k.size ≤ 9223372036854775807) :
    Calls Yba.prog 17 #[.string k, .pointer (some ⟨b1, 0, none⟩), .pointer (some ⟨p1, 0, none⟩), .pointer (some ⟨b2, 0, none⟩), .pointer (some ⟨p2, 0, none⟩)] w fun e w' =>
      e = .returned (.tuple #[]) ∧ Two w' S p1 p2 (note1 n1 ss1 k) (note2 n1 n2 ss2 k) ∧ Keeps (Touch S p1 p2) w w' := by
  obtain ⟨v1, v2, a, b, c⟩ := h
  have HA := hid a
  have HB := hid b
  have HC := hid c
  clear a b c
  cases e1 : spellB k n1 with
  | true =>
    have hz : k.size = 0 → ss1 = [] := fun h => h1 (by rw [← spell_size e1]; exact h)
    have E1 : note1 n1 ss1 k = addTo ss1 k ∧ note2 n1 n2 ss2 k = ss2 := by unfold note1 note2; simp [e1]
    have HE := hid E1
    have HZ := hid hz
    clear E1 hz h1 h2
    go_enter Yba.func17, Yba.ntmps17
    go_wp2_with fail
    refine (spells_any k n1 w hk).mono ?_
    rintro e w1 ⟨rfl, hd⟩
    rw [e1]
    have HD := hid hd
    have hS1 : S ≤ w1.heap.size := by rw [hd.heap]; exact hS
    clear hd c1 c2 e1
    go_wp2_with fail
    refine (add_any w1 S p1 v1 ss1 k (HA.out.kept (M := fun _ => False) (Keeps.of_drawn HD.out _) (fun h => h) (fun _ _ h => h)) HZ.out hS1 hl1).mono ?_
    rintro e w2 ⟨rfl, had⟩
    have HT := hid (Two.add1 (HA.out.kept (M := fun _ => False) (Keeps.of_drawn HD.out _) (fun h => h) (fun _ _ h => h)) (HB.out.kept (M := fun _ => False) (Keeps.of_drawn HD.out _) (fun h => h) (fun _ _ h => h)) HC.out hne (Keeps.of_drawn HD.out _) had)
    clear had
    go_wp2
    go_end0
    rw [HE.out.1, HE.out.2]
    exact ⟨rfl, HT.out⟩
  | false =>
    cases e2 : spellB k n2 with
    | true =>
      have hz : k.size = 0 → ss2 = [] := fun h => h2 (by rw [← spell_size e2]; exact h)
      have E1 : note1 n1 ss1 k = ss1 ∧ note2 n1 n2 ss2 k = addTo ss2 k := by unfold note1 note2; simp [e1, e2]
      have HE := hid E1
      have HZ := hid hz
      clear E1 hz h1 h2
      go_enter Yba.func17, Yba.ntmps17
      go_wp2_with fail
      refine (spells_any k n1 w hk).mono ?_
      rintro e w1 ⟨rfl, hd⟩
      rw [e1]
      have HD := hid hd
      have d2 : w1.cell? ⟨b2, 0, none⟩ = some (.string n2) := (Drawn.cell hd _).trans c2
      have hS1 : S ≤ w1.heap.size := by rw [hd.heap]; exact hS
      clear hd c1 c2 e1
      go_wp2_with fail
      refine (spells_any k n2 w1 hk).mono ?_
      rintro e w2 ⟨rfl, hd⟩
      rw [e2]
      have HD2 := hid hd
      have hS2 : S ≤ w2.heap.size := by rw [hd.heap]; exact hS1
      have KK := (Keeps.of_drawn HD.out (Touch S p1 p2)).trans (Keeps.of_drawn HD2.out _)
      have KF := (Keeps.of_drawn HD.out (fun _ => False)).trans (Keeps.of_drawn HD2.out _)
      have HKK := hid KK
      have HKF := hid KF
      clear hd d2 e2 KK KF
      go_wp2_with fail
      refine (add_any w2 S p2 v2 ss2 k (HB.out.kept HKF.out (fun h => h) (fun _ _ h => h)) HZ.out hS2 hl2).mono ?_
      rintro e w3 ⟨rfl, had⟩
      have ht := Two.add1 (p1 := p2) (p2 := p1) (HB.out.kept HKF.out (fun h => h) (fun _ _ h => h)) (HA.out.kept HKF.out (fun h => h) (fun _ _ h => h)) (fun k h1 h2 => HC.out k h2 h1) hne.symm (HKK.out.mono fun k _ h => by rcases h with h | h | h; exact .inr (.inl h); exact .inl h; exact .inr (.inr h)) had
      have HT := hid ht
      clear had ht
      go_wp2
      go_end0
      rw [HE.out.1, HE.out.2]
      refine ⟨rfl, HT.out.1.swap, HT.out.2.mono fun k _ h => ?_⟩
      rcases h with h | h | h
      · exact .inr (.inl h)
      · exact .inl h
      · exact .inr (.inr h)
    | false =>
      have E1 : note1 n1 ss1 k = ss1 ∧ note2 n1 n2 ss2 k = ss2 := by unfold note1 note2; simp [e1, e2]
      have HE := hid E1
      clear E1 h1 h2
      go_enter Yba.func17, Yba.ntmps17
      go_wp2_with fail
      refine (spells_any k n1 w hk).mono ?_
      rintro e w1 ⟨rfl, hd⟩
      rw [e1]
      have HD := hid hd
      have d2 : w1.cell? ⟨b2, 0, none⟩ = some (.string n2) := (Drawn.cell hd _).trans c2
      clear hd c1 c2 e1
      go_wp2_with fail
      refine (spells_any k n2 w1 hk).mono ?_
      rintro e w2 ⟨rfl, hd⟩
      rw [e2]
      have KF := (Keeps.of_drawn HD.out (fun _ => False)).trans (Keeps.of_drawn hd _)
      have HKF := hid KF
      clear hd d2 e2 KF
      go_wp2
      go_end0
      rw [HE.out.1, HE.out.2]
      exact ⟨rfl, ⟨v1, v2, HA.out.kept HKF.out (fun h => h) (fun _ _ h => h), HB.out.kept HKF.out (fun h => h) (fun _ _ h => h), HC.out⟩, HKF.out.mono fun _ _ h => h.elim⟩
end Go.Proofs.Ybulkehgi.Spell
