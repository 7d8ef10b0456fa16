/-
  Plain: prefixes as lists of bytes, their buckets, what a group and a builder hold.
-/
namespace Go.Proofs.Ybulkehgw.Pl

abbrev Bs := List Nat
def stp (j c : Nat) : Nat := j * 256 + c
def bkt (lead : Nat) (p : Bs) : Nat := (p.take lead).foldl stp 0
def cnt (lead : Nat) (P : List Bs) (j : Nat) : Nat := P.countP fun p => decide (bkt lead p < j)
def tls (lead : Nat) (P : List Bs) : Bs := P.flatMap (·.drop lead)
def Okp (size : Nat) (p : Bs) : Prop := p.length = size ∧ ∀ c ∈ p, c < 256
def Mono (lead : Nat) (P : List Bs) : Prop := P.Pairwise fun p q => bkt lead p ≤ bkt lead q

theorem fold_lt : ∀ (l : Bs) (a : Nat), (∀ c ∈ l, c < 256) → l.foldl stp a < (a + 1) * 256 ^ l.length
  | [], a, _ => by simp
  | c :: r, a, h => by
    have hc := h c (by simp)
    have ih := fold_lt r (stp a c) (fun x hx => h x (by simp [hx]))
    rw [List.foldl_cons, List.length_cons, Nat.pow_succ]
    refine Nat.lt_of_lt_of_le ih ?_
    have : stp a c + 1 ≤ (a + 1) * 256 := by unfold stp; omega
    calc (stp a c + 1) * 256 ^ r.length ≤ ((a + 1) * 256) * 256 ^ r.length := Nat.mul_le_mul_right _ this
      _ = (a + 1) * (256 ^ r.length * 256) := by rw [Nat.mul_assoc, Nat.mul_comm 256]
theorem bkt_lt {size lead : Nat} {p : Bs} (h : Okp size p) (hl : lead ≤ size) : bkt lead p < 256 ^ lead := by
  have := fold_lt (p.take lead) 0 (fun c hc => h.2 c (List.mem_of_mem_take hc))
  rw [List.length_take, h.1, Nat.min_eq_left hl] at this
  simpa [bkt] using this
theorem bkt_zero (p : Bs) : bkt 0 p = 0 := rfl
theorem bkt_succ (i : Nat) (p : Bs) (h : i < p.length) : bkt (i + 1) p = stp (bkt i p) p[i] := by
  unfold bkt
  rw [List.take_add_one, List.getElem?_eq_getElem h, List.foldl_append]
  rfl

theorem cnt_le (lead : Nat) (P : List Bs) (j : Nat) : cnt lead P j ≤ P.length := List.countP_le_length
theorem cnt_append (lead : Nat) (P Q : List Bs) (j : Nat) : cnt lead (P ++ Q) j = cnt lead P j + cnt lead Q j := List.countP_append
theorem cnt_one (lead : Nat) (p : Bs) (j : Nat) : cnt lead [p] j = if bkt lead p < j then 1 else 0 := by
  unfold cnt
  rw [List.countP_singleton]
  simp
theorem cnt_all {lead : Nat} {P : List Bs} {j : Nat} (h : ∀ p ∈ P, bkt lead p < j) : cnt lead P j = P.length := by
  unfold cnt
  rw [List.countP_eq_length]
  simpa using h
theorem cnt_none {lead : Nat} {P : List Bs} {j : Nat} (h : ∀ p ∈ P, j ≤ bkt lead p) : cnt lead P j = 0 := by
  unfold cnt
  rw [List.countP_eq_zero]
  intro p hp
  simpa using h p hp
theorem cnt_zero (lead : Nat) (P : List Bs) : cnt lead P 0 = 0 := cnt_none fun _ _ => Nat.zero_le _
theorem lt_cnt {lead : Nat} : ∀ {P : List Bs} (_ : Mono lead P) (i : Nat) (hi : i < P.length) (j : Nat), i < cnt lead P j ↔ bkt lead P[i] < j
  | p :: r, h, i, hi, j => by
    have hp := (List.pairwise_cons.1 h).1
    have hr := (List.pairwise_cons.1 h).2
    have e : cnt lead (p :: r) j = cnt lead [p] j + cnt lead r j := cnt_append lead [p] r j
    rw [e, cnt_one]
    by_cases hb : bkt lead p < j
    · rw [if_pos hb]
      cases i with
      | zero => simp [hb]; omega
      | succ i =>
        have hi' : i < r.length := by simpa using hi
        have := lt_cnt hr i hi' j
        rw [List.getElem_cons_succ, ← this]
        omega
    · rw [if_neg hb, cnt_none (fun q hq => by have := hp q hq; omega)]
      constructor
      · intro h; omega
      · intro hx
        cases i with
        | zero => exact absurd hx hb
        | succ i =>
          have hi' : i < r.length := by simpa using hi
          rw [List.getElem_cons_succ] at hx
          have := hp r[i] (List.getElem_mem hi')
          omega

/-! The builder. -/
def nxt (lead : Nat) (P : List Bs) : Nat := match P.getLast? with | none => 0 | some p => bkt lead p + 1
theorem nxt_nil (lead : Nat) : nxt lead [] = 0 := rfl
theorem nxt_snoc (lead : Nat) (P : List Bs) (q : Bs) : nxt lead (P ++ [q]) = bkt lead q + 1 := by simp [nxt]
theorem bkt_lt_nxt {lead : Nat} {P : List Bs} (h : Mono lead P) : ∀ p ∈ P, bkt lead p < nxt lead P := by
  intro p hp
  rcases List.eq_nil_or_concat P with rfl | ⟨P', q, rfl⟩
  · simp at hp
  · rw [List.concat_eq_append] at h hp ⊢
    rw [nxt_snoc]
    rcases List.mem_append.1 hp with h1 | h1
    · have := (List.pairwise_append.1 h).2.2 p h1 q (by simp)
      omega
    · rw [List.mem_singleton.1 h1]; omega
theorem nxt_le {lead : Nat} {P : List Bs} {q : Bs} (h : Mono lead (P ++ [q])) : nxt lead P ≤ bkt lead q + 1 := by
  rcases List.eq_nil_or_concat P with rfl | ⟨P', p, rfl⟩
  · simp [nxt_nil]
  · rw [List.concat_eq_append] at h ⊢
    rw [nxt_snoc]
    have := (List.pairwise_append.1 h).2.2 p (by simp) q (by simp)
    omega
/-- The starts while next = x. -/
def stM (lead : Nat) (P : List Bs) (x j : Nat) : Nat := if j < nxt lead P then cnt lead P j else if j < x then P.length else 0
def stB (lead : Nat) (P : List Bs) (j : Nat) : Nat := if j < nxt lead P then cnt lead P j else 0
theorem stM_start (lead : Nat) (P : List Bs) : stM lead P (nxt lead P) = stB lead P := by
  funext j
  unfold stM stB
  by_cases h : j < nxt lead P
  · rw [if_pos h, if_pos h]
  · rw [if_neg h, if_neg h, if_neg h]
theorem stM_step (lead : Nat) (P : List Bs) (x j : Nat) (hx : nxt lead P ≤ x) : stM lead P (x + 1) j = if j = x then P.length else stM lead P x j := by
  unfold stM
  by_cases h : j < nxt lead P
  · have : j ≠ x := by omega
    rw [if_pos h, if_neg this, if_pos h]
  · by_cases e : j = x
    · subst e; rw [if_neg h, if_pos (by omega), if_pos rfl]
    · rw [if_neg h, if_neg e, if_neg h]
      by_cases h2 : j < x
      · rw [if_pos (by omega), if_pos h2]
      · rw [if_neg (by omega), if_neg h2]
theorem stM_end {lead : Nat} {P : List Bs} {q : Bs} (h : Mono lead (P ++ [q])) : stM lead P (bkt lead q + 1) = stB lead (P ++ [q]) := by
  funext j
  have hP : Mono lead P := (List.pairwise_append.1 h).1
  have hn := nxt_le h
  unfold stM stB
  rw [nxt_snoc, cnt_append, cnt_one]
  by_cases h1 : j < nxt lead P
  · rw [if_pos h1, if_pos (by omega), if_neg (by omega), Nat.add_zero]
  · rw [if_neg h1]
    by_cases h2 : j < bkt lead q + 1
    · rw [if_pos h2, if_pos h2, if_neg (by omega), Nat.add_zero, cnt_all fun p hp => by have := bkt_lt_nxt hP p hp; omega]
    · rw [if_neg h2, if_neg h2]
theorem stB_nil (lead j : Nat) : stB lead [] j = 0 := by unfold stB; rw [nxt_nil]; simp
theorem stB_le (lead : Nat) (P : List Bs) (j : Nat) : stB lead P j ≤ P.length := by
  unfold stB
  split
  · exact cnt_le _ _ _
  · exact Nat.zero_le _
theorem stM_le (lead : Nat) (P : List Bs) (x j : Nat) : stM lead P x j ≤ P.length := by
  unfold stM
  split
  · exact cnt_le _ _ _
  · split
    · exact Nat.le_refl _
    · exact Nat.zero_le _

/-! Tails. -/
theorem tls_append (lead : Nat) (P Q : List Bs) : tls lead (P ++ Q) = tls lead P ++ tls lead Q := by simp [tls]
theorem tls_one (lead : Nat) (p : Bs) : tls lead [p] = p.drop lead := by simp [tls]
theorem tls_len {size lead : Nat} : ∀ {P : List Bs} (_ : ∀ p ∈ P, Okp size p), (tls lead P).length = P.length * (size - lead)
  | [], _ => by simp [tls]
  | p :: r, h => by
    have e : tls lead (p :: r) = p.drop lead ++ tls lead r := by simp [tls]
    rw [e, List.length_append, tls_len (fun q hq => h q (by simp [hq])), List.length_drop, (h p (by simp)).1, List.length_cons, Nat.add_mul]
    omega
theorem tls_zero (P : List Bs) : tls 0 P = P.flatten := by
  induction P with
  | nil => rfl
  | cons p r ih => simp only [tls, List.flatMap_cons, List.drop_zero, List.flatten_cons]; congr 1
theorem tls_at {size lead : Nat} {P : List Bs} (h : ∀ p ∈ P, Okp size p) (_hl : lead < size) (i : Nat) (hi : i < P.length) (k : Nat) (hk : k < size - lead) :
    (tls lead P)[i * (size - lead) + k]? = P[i][lead + k]? := by
  have e : P = P.take i ++ (P[i] :: P.drop (i + 1)) := by rw [← List.drop_eq_getElem_cons hi, List.take_append_drop]
  have h1 : (tls lead (P.take i)).length = i * (size - lead) := by
    rw [tls_len (size := size) (fun p hp => h p (List.mem_of_mem_take hp)), List.length_take, Nat.min_eq_left (by omega)]
  conv => lhs; rw [e]
  rw [tls_append, List.getElem?_append_right (by omega), h1, Nat.add_sub_cancel_left]
  have e2 : tls lead (P[i] :: P.drop (i + 1)) = P[i].drop lead ++ tls lead (P.drop (i + 1)) := by unfold tls; rw [List.flatMap_cons]
  have h2 : (P[i].drop lead).length = size - lead := by rw [List.length_drop, (h P[i] (List.getElem_mem hi)).1]
  rw [e2, List.getElem?_append_left (by omega), List.getElem?_drop]

/-! Sorted prefixes have sorted buckets. -/
theorem fold_le_acc : ∀ (l m : Bs) (a b : Nat), l.length = m.length → (∀ c ∈ l, c < 256) → a < b → l.foldl stp a < m.foldl stp b
  | [], [], a, b, _, _, h => h
  | c :: r, d :: s, a, b, hl, hc, h => by
    rw [List.foldl_cons, List.foldl_cons]
    refine fold_le_acc r s _ _ (by simpa using hl) (fun x hx => hc x (by simp [hx])) ?_
    have := hc c (by simp)
    unfold stp
    omega
theorem fold_mono : ∀ (l m : Bs) (a : Nat), l.length = m.length → (∀ c ∈ l, c < 256) → l ≤ m → l.foldl stp a ≤ m.foldl stp a
  | [], [], a, _, _, _ => Nat.le_refl _
  | c :: r, d :: s, a, hl, hc, h => by
    rw [List.foldl_cons, List.foldl_cons]
    have hl' : r.length = s.length := by simpa using hl
    have hc' : ∀ x ∈ r, x < 256 := fun x hx => hc x (by simp [hx])
    rcases Nat.lt_trichotomy c d with h1 | h1 | h1
    · exact Nat.le_of_lt (fold_le_acc r s _ _ hl' hc' (by unfold stp; omega))
    · subst h1
      refine fold_mono r s _ hl' hc' ?_
      rw [List.cons_le_cons_iff] at h
      rcases h with h | ⟨_, h⟩
      · omega
      · exact h
    · rw [List.cons_le_cons_iff] at h
      rcases h with h | ⟨h, _⟩ <;> omega
theorem take_le : ∀ (l m : Bs) (n : Nat), l.length = m.length → l ≤ m → l.take n ≤ m.take n
  | [], [], n, _, h => by simp
  | c :: r, d :: s, 0, _, _ => by simp
  | c :: r, d :: s, n + 1, hl, h => by
    rw [List.take_succ_cons, List.take_succ_cons, List.cons_le_cons_iff]
    rw [List.cons_le_cons_iff] at h
    rcases h with h | ⟨h, h2⟩
    · exact .inl h
    · exact .inr ⟨h, take_le r s n (by simpa using hl) h2⟩
theorem bkt_mono {size lead : Nat} {p q : Bs} (hp : Okp size p) (hq : Okp size q) (h : p ≤ q) : bkt lead p ≤ bkt lead q :=
  fold_mono _ _ _ (by rw [List.length_take, List.length_take, hp.1, hq.1]) (fun c hc => hp.2 c (List.mem_of_mem_take hc)) (take_le p q lead (by rw [hp.1, hq.1]) h)
theorem mono_of_sorted {size : Nat} (lead : Nat) {P : List Bs} (h : ∀ p ∈ P, Okp size p) (hs : P.Pairwise (· ≤ ·)) : Mono lead P :=
  hs.imp_of_mem fun hp hq hpq => bkt_mono (h _ hp) (h _ hq) hpq
end Go.Proofs.Ybulkehgw.Pl
