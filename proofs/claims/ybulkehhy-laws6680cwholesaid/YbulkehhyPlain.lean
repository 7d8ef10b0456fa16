/-
  THE PLAIN LAW: the final records of a list; what the acceptor's map holds behind them; the highest ballot. No Go in sight but for Go's values.
-/
import Derived.Test.YbulkehhyMaps
namespace Go.Proofs.Ybulkehhy.Plain
open SM

/-- A record: which transaction (even: the asked one), the participant, promised, accepted, the value. -/
structure Ent where
  sel : Int
  part : ByteArray
  pr : Int
  ac : Int
  val : ByteArray

def evn (e : Ent) : Bool := e.sel % 2 == 0
def hit (e x : Ent) : Bool := evn x && decide (x.part = e.part)
/-- The final records: even, and no later even one of the same participant. -/
def fin : List Ent → List Ent
  | [] => []
  | e :: r => if evn e && !r.any (hit e) then e :: fin r else fin r
def agg (e : Ent) : Value := .agg #[.int .u64 e.pr, .int .u64 e.ac, .string e.val]
def kv (e : Ent) : ByteArray × Value := (e.part, agg e)

theorem any_snoc (e x : Ent) (r : List Ent) : (r ++ [x]).any (hit e) = (r.any (hit e) || hit e x) := by simp
theorem fin_mem {l : List Ent} {e : Ent} (h : e ∈ fin l) : e ∈ l ∧ evn e = true := by
  induction l with
  | nil => cases h
  | cons x r ih =>
    rw [fin] at h
    split at h
    · rename_i hc
      rw [Bool.and_eq_true] at hc
      rcases List.mem_cons.1 h with rfl | h
      · exact ⟨List.mem_cons_self, hc.1⟩
      · exact ⟨List.mem_cons_of_mem _ (ih h).1, (ih h).2⟩
    · exact ⟨List.mem_cons_of_mem _ (ih h).1, (ih h).2⟩
theorem fin_odd (x : Ent) (hx : evn x = false) : ∀ l : List Ent, fin (l ++ [x]) = fin l
  | [] => by simp [fin, hx]
  | e :: r => by
    rw [List.cons_append, fin, fin, any_snoc, fin_odd x hx r]
    simp [hit, hx]
theorem fin_even (x : Ent) (hx : evn x = true) : ∀ l : List Ent, fin (l ++ [x]) = (fin l).filter (fun e => decide (e.part ≠ x.part)) ++ [x]
  | [] => by simp [fin, hx]
  | e :: r => by
    rw [List.cons_append, fin, fin, any_snoc, fin_even x hx r]
    by_cases hp : x.part = e.part
    · by_cases hc : (evn e && !r.any (hit e)) = true
      · rw [if_neg (by simp [hit, hx, hp]), if_pos hc, List.filter_cons, if_neg (by simp [hp])]
      · rw [if_neg (by simp [hit, hx, hp]), if_neg hc]
    · by_cases hc : (evn e && !r.any (hit e)) = true
      · rw [if_pos (by simpa [hit, hx, hp] using hc), if_pos hc, List.filter_cons, if_pos (by simpa using fun h => hp h.symm)]
        rfl
      · rw [if_neg (by simpa [hit, hx, hp] using hc), if_neg hc]

/-- The map that the acceptor keeps for the asked transaction. -/
def Kept (l : List (ByteArray × Value)) (es : List Ent) : Prop := (keys l).Nodup ∧ l.Perm ((fin es).map kv)
theorem Kept.start : Kept [] [] := ⟨by simp [keys], by simp [fin]⟩
theorem Kept.odd {l : List (ByteArray × Value)} {es : List Ent} (h : Kept l es) (x : Ent) (hx : evn x = false) : Kept l (es ++ [x]) := by
  unfold Kept; rw [fin_odd x hx]; exact h
theorem Kept.even {l : List (ByteArray × Value)} {es : List Ent} (h : Kept l es) (x : Ent) (hx : evn x = true) (hn : (keys (put l x.part (agg x))).Nodup) : Kept (put l x.part (agg x)) (es ++ [x]) := by
  refine ⟨hn, (put_perm x.part (agg x) h.1).trans ?_⟩
  rw [fin_even x hx, List.map_append]
  refine List.Perm.append ?_ (List.Perm.refl _)
  have := h.2.filter (fun p => decide (p.1 ≠ x.part))
  rw [List.filter_map] at this
  exact this

/-! The highest ballot in which a value was accepted: of a list of whatever, each with a mark and a number. -/
def IsHi {α : Type} (sd : α → Bool) (ac : α → Int) (l : List α) (h : Int) : Prop := (∀ e ∈ l, sd e = true → ac e ≤ h) ∧ (h = 0 ∨ ∃ e ∈ l, sd e = true ∧ ac e = h)
section
variable {α : Type} {sd : α → Bool} {ac : α → Int} {l l' : List α} {h h' : Int}
theorem IsHi.nil : IsHi sd ac [] 0 := ⟨by simp, .inl rfl⟩
theorem IsHi.skip (hh : IsHi sd ac l h) (e : α) (hs : sd e = false) : IsHi sd ac (l ++ [e]) h := by
  refine ⟨fun x hx hsx => ?_, ?_⟩
  · rcases List.mem_append.1 hx with hx | hx
    · exact hh.1 x hx hsx
    · rw [List.mem_singleton.1 hx, hs] at hsx; cases hsx
  · rcases hh.2 with h0 | ⟨x, hx, h1⟩
    · exact .inl h0
    · exact .inr ⟨x, List.mem_append_left _ hx, h1⟩
theorem IsHi.keep (hh : IsHi sd ac l h) (e : α) (hle : ac e ≤ h) : IsHi sd ac (l ++ [e]) h := by
  refine ⟨fun x hx hsx => ?_, ?_⟩
  · rcases List.mem_append.1 hx with hx | hx
    · exact hh.1 x hx hsx
    · rw [List.mem_singleton.1 hx]; exact hle
  · rcases hh.2 with h0 | ⟨x, hx, h1⟩
    · exact .inl h0
    · exact .inr ⟨x, List.mem_append_left _ hx, h1⟩
theorem IsHi.more (hh : IsHi sd ac l h) (e : α) (hs : sd e = true) (hle : h ≤ ac e) : IsHi sd ac (l ++ [e]) (ac e) := by
  refine ⟨fun x hx hsx => ?_, .inr ⟨e, by simp, hs, rfl⟩⟩
  rcases List.mem_append.1 hx with hx | hx
  · have := hh.1 x hx hsx; omega
  · rw [List.mem_singleton.1 hx]; exact Int.le_refl _
theorem IsHi.of_mem (hh : IsHi sd ac l h) (hm : ∀ e, e ∈ l ↔ e ∈ l') : IsHi sd ac l' h := by
  refine ⟨fun e he => hh.1 e ((hm e).2 he), ?_⟩
  rcases hh.2 with h0 | ⟨x, hx, h1⟩
  · exact .inl h0
  · exact .inr ⟨x, (hm x).1 hx, h1⟩
theorem IsHi.unique (hh : IsHi sd ac l h) (hh' : IsHi sd ac l h') (h0 : 0 ≤ h) (h0' : 0 ≤ h') : h = h' := by
  have a : h ≤ h' := by
    rcases hh.2 with e | ⟨x, hx, hs, e⟩
    · omega
    · have := hh'.1 x hx hs; omega
  have b : h' ≤ h := by
    rcases hh'.2 with e | ⟨x, hx, hs, e⟩
    · omega
    · have := hh.1 x hx hs; omega
  omega
end
/-! Read off the values. -/
def acV : Value → Int | .agg cs => (match cs.toList with | [_, .int _ a, _] => a | _ => 0) | _ => 0
def valV : Value → ByteArray | .agg cs => (match cs.toList with | [_, _, .string s] => s | _ => ByteArray.empty) | _ => ByteArray.empty
def said (e : Ent) : Bool := !e.val.toList.isEmpty
def sdP (p : ByteArray × Value) : Bool := !(valV p.2).toList.isEmpty
def acP (p : ByteArray × Value) : Int := acV p.2
theorem sdP_kv (e : Ent) : sdP (kv e) = said e := rfl
theorem acP_kv (e : Ent) : acP (kv e) = e.ac := rfl
theorem IsHi.ents {l : List Ent} {h : Int} (hh : IsHi sdP acP (l.map kv) h) : IsHi said (·.ac) l h := by
  refine ⟨fun e he hs => hh.1 (kv e) (List.mem_map.2 ⟨e, he, rfl⟩) hs, ?_⟩
  rcases hh.2 with h0 | ⟨p, hp, hs, hq⟩
  · exact .inl h0
  · obtain ⟨e, he, rfl⟩ := List.mem_map.1 hp
    exact .inr ⟨e, he, hs, hq⟩

/-! The values that were accepted in ballot h. -/
def inB (h : Int) (e : Ent) : Bool := said e && e.ac == h
def vv (e : Ent) : ByteArray × Value := (e.part, .string e.val)
def inP (h : Int) (p : ByteArray × Value) : Bool := sdP p && acP p == h
def vP (p : ByteArray × Value) : ByteArray × Value := (p.1, .string (valV p.2))
def Vals (h : Int) (v ds : List (ByteArray × Value)) : Prop := v = (ds.filter (inP h)).map vP
theorem Vals.start (h : Int) : Vals h [] [] := rfl
theorem Vals.skip {h : Int} {v ds : List (ByteArray × Value)} (hv : Vals h v ds) (e : Ent) (he : inB h e = false) : Vals h v (ds ++ [kv e]) := by
  unfold Vals at *
  have : inP h (kv e) = false := he
  rw [List.filter_append, hv]; simp [this]
theorem put_new {α : Type} (k : ByteArray) (v : α) : ∀ {l : List (ByteArray × α)}, k ∉ keys l → put l k v = l ++ [(k, v)]
  | [], _ => rfl
  | p :: r, h => by
    simp only [keys, List.map_cons, List.mem_cons, not_or] at h
    rw [put, if_neg (fun e => h.1 e.symm), put_new k v h.2]
    rfl
theorem Vals.add {h : Int} {v ds : List (ByteArray × Value)} (hv : Vals h v ds) (e : Ent) (he : inB h e = true) (hnew : e.part ∉ keys ds) : Vals h (put v e.part (.string e.val)) (ds ++ [kv e]) := by
  unfold Vals at *
  subst hv
  have : inP h (kv e) = true := he
  rw [put_new, List.filter_append]
  · simp [this]; rfl
  · intro hk
    simp only [keys, List.map_map, List.mem_map, List.mem_filter, Function.comp_apply, vP] at hk
    obtain ⟨d, ⟨hd, _⟩, e'⟩ := hk
    exact hnew (List.mem_map.2 ⟨d, hd, e'⟩)
theorem Vals.perm {h : Int} {v ds : List (ByteArray × Value)} {F : List Ent} (hv : Vals h v ds) (hp : ds.Perm (F.map kv)) : v.Perm ((F.filter (inB h)).map vv) := by
  unfold Vals at hv
  subst hv
  have := (hp.filter (inP h)).map vP
  rw [List.filter_map, List.map_map] at this
  exact this

end Go.Proofs.Ybulkehhy.Plain
