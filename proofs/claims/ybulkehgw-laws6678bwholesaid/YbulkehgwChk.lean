/-
  chunks$1 (f35): the iterator over a group's prefixes.
-/
import Derived.Test.YbulkehgwGrp
import Derived.Test.YbulkehgwBat
import Derived.Test.YbulkehgwHeld
import Derived.RangeFuncWrites
import Derived.RangeFuncLeaves
import Derived.Shelf.Abstract
import Derived.Shelf.RegionOpen
import Derived.OwnWalkIn
import Derived.TacticsInMore
import Derived.LoopNIn
import Derived.LoopIn
namespace Go.Proofs.Ybulkehgw.Chk
open Go.RowKit Pl Mem Bld AddZ AddL Grp
attribute [local go_sem] Oper.semAt_some

/-- The prefixes at the positions i up to e. -/
def cut (Ps : List Bs) (i e : Nat) : List Bs := (Ps.drop i).take (e - i)

theorem flat_drop {size : Nat} {Ps : List Bs} (h : ∀ p ∈ Ps, Okp size p) (i : Nat) (hi : i ≤ Ps.length) : (Ps.drop i).flatten = Ps.flatten.drop (i * size) := by
  have e : Ps.flatten = (Ps.take i).flatten ++ (Ps.drop i).flatten := by rw [← List.flatten_append, List.take_append_drop]
  have hl : (Ps.take i).flatten.length = i * size := by rw [flat_len (fun p hp => h p (List.mem_of_mem_take hp)), List.length_take, Nat.min_eq_left hi]
  rw [e, List.drop_append_of_le_length (by omega), ← hl, List.drop_length, List.nil_append]
theorem flat_take {size : Nat} {Ps : List Bs} (h : ∀ p ∈ Ps, Okp size p) (i : Nat) (hi : i ≤ Ps.length) : (Ps.take i).flatten = Ps.flatten.take (i * size) := by
  have e : Ps.flatten = (Ps.take i).flatten ++ (Ps.drop i).flatten := by rw [← List.flatten_append, List.take_append_drop]
  have hl : (Ps.take i).flatten.length = i * size := by rw [flat_len (fun p hp => h p (List.mem_of_mem_take hp)), List.length_take, Nat.min_eq_left hi]
  rw [e, List.take_append_of_le_length (by omega), ← hl, List.take_length]
theorem cut_ok {size : Nat} {Ps : List Bs} (h : ∀ p ∈ Ps, Okp size p) (i e : Nat) : ∀ p ∈ cut Ps i e, Okp size p := fun p hp => h p (List.mem_of_mem_drop (List.mem_of_mem_take hp))
theorem cut_len (Ps : List Bs) (i e : Nat) (he : e ≤ Ps.length) (hi : i ≤ e) : (cut Ps i e).length = e - i := by
  unfold cut
  rw [List.length_take, List.length_drop]; omega
theorem cut_flat {size : Nat} {Ps : List Bs} (h : ∀ p ∈ Ps, Okp size p) (i e : Nat) (he : e ≤ Ps.length) (hi : i ≤ e) : (cut Ps i e).flatten = (Ps.flatten.drop (i * size)).take ((e - i) * size) := by
  unfold cut
  rw [flat_take (fun p hp => h p (List.mem_of_mem_drop hp)) _ (by rw [List.length_drop]; omega), flat_drop h i (by omega)]
/-- What the iterator reads: the boxes, the group. -/
structure Sr (w : World) (gx tx bx gb gt gs ub size lead gcap to : Nat) (Ps : List Bs) : Prop where
  cg : w.cell? ⟨gx, 0, none⟩ = some (.pointer (some ⟨gb, 0, none⟩))
  ct : w.cell? ⟨tx, 0, none⟩ = some (.int .i64 (to : Int))
  cb : w.cell? ⟨bx, 0, none⟩ = some (.slice (some ⟨ub, 0, none⟩) 16384 16384)
  gr : Cl w gb 31 [.int .i64 (size : Int), .int .i64 (lead : Int), stv lead gs, .slice (some ⟨gt, 0, none⟩) (len size lead Ps) gcap]
  tl : Tl w gt gcap (tls lead Ps)
  st : lead ≠ 0 → Cl w gs 23 (u32s (nb lead) (cnt lead Ps))

set_option maxHeartbeats 2000000 in
set_option maxRecDepth 100000 in
theorem chunks_zero (l gx fx tx bx gb gt gs ub size gcap fr to : Nat) (Ps : List Bs) (W : World) (J : Nat → World → Prop) (h : Sr W gx tx bx gb gt gs ub size 0 gcap to Ps) (hfx : W.cell? ⟨fx, 0, none⟩ = some (.int .i64 (fr : Int))) (hP : ∀ p ∈ Ps, Okp size p) (_hm : Ps.length ≤ 1048576) (hto : to ≤ Ps.length) (hft : fr < to) (hs1 : 1 ≤ size) (hs : size ≤ 4) (hgc : len size 0 Ps ≤ gcap) (hgm : gcap ≤ 4194304)
    (hJd : ∀ i W W', J i W → Drawn W W' → J i W') (h0 : J fr W)
    (hJS : ∀ w, J to w → w.cell? ⟨gx, 0, none⟩ = some (.pointer (some ⟨gb, 0, none⟩)) ∧ w.cell? ⟨fx, 0, none⟩ = some (.int .i64 (fr : Int)) ∧ w.cell? ⟨tx, 0, none⟩ = some (.int .i64 (to : Int)) ∧ w.cell? ⟨gb, 0, none⟩ = some (.int .i64 (size : Int)) ∧ w.cell? ⟨gb, 3, none⟩ = some (.slice (some ⟨gt, 0, none⟩) (len size 0 Ps) gcap))
    (hY : ∀ i e ao n c W', i ≤ e → e ≤ to → J i W' → Drawn W W' → Arg W' ao n c (cut Ps i e).flatten → (∀ b off, ao = some ⟨b, off, none⟩ → 0 < n → b = gt) → YieldAt Fence.wide 0 Yba.prog l #[.slice ao n c] W' fun x W'' => x = .returned (.bool true) ∧ J e W'') :
    Calls Yba.prog 35 #[.func (.yield l) #[] #[], .pointer (some ⟨gx, 0, none⟩), .pointer (some ⟨fx, 0, none⟩), .pointer (some ⟨tx, 0, none⟩), .pointer (some ⟨bx, 0, none⟩)] W fun e W' => e = .returned (.tuple #[]) ∧ J to W' := by
  have c0 := h.gr.cell 0 (by simp)
  have c1 := h.gr.cell 1 (by simp)
  have c3 := h.gr.cell 3 (by simp)
  simp only [List.getElem_cons_succ, List.getElem_cons_zero] at c0 c1 c3
  have cg := h.cg
  have ct := h.ct
  obtain ⟨a, ha⟩ : ∃ a, fr * size = a := ⟨_, rfl⟩
  obtain ⟨b, hb⟩ : ∃ b, to * size = b := ⟨_, rfl⟩
  obtain ⟨lo, hlo⟩ : ∃ lo, len size 0 Ps = lo := ⟨_, rfl⟩
  have hab : a < b := by rw [← ha, ← hb]; exact Nat.mul_lt_mul_of_pos_right hft (by omega)
  have hbl : b ≤ lo := by rw [← hb, ← hlo]; unfold len; rw [Nat.sub_zero]; exact Nat.mul_le_mul_right _ hto
  rw [hlo] at hgc c3 hJS
  have HJS := hid hJS
  clear hJS
  have ha' : (fr : Int) * (size : Int) = (a : Int) := by rw [← ha, Int.natCast_mul]
  have hb' : (to : Int) * (size : Int) = (b : Int) := by rw [← hb, Int.natCast_mul]
  have hca : ¬ gcap = a := by omega
  have hrd : Rd W.drew gt a (cut Ps fr to).flatten := by
    rw [cut_flat hP fr to hto (by omega), ha]
    have h1 := h.tl.rd
    rw [tls_zero] at h1
    have h2 := (Rd.take (Rd.drop h1 a) ((to - fr) * size))
    rw [Nat.zero_add] at h2
    exact Rd.drawn h2 (drawn_one W)
  have hcl : (cut Ps fr to).flatten.length = b - a := by
    rw [flat_len (cut_ok hP fr to), cut_len Ps fr to hto (by omega), Nat.sub_mul, ha, hb]
  obtain ⟨fn, tmps, assign, body, hy, hR⟩ := hY fr to (some ⟨gt, a, none⟩) (b - a) (gcap - a) W.drew (by omega) (Nat.le_refl _) (hJd _ _ _ h0 (drawn_one W)) (drawn_one W) ⟨hcl, by omega, by omega, fun e => (by cases e), fun _ => ⟨gt, a, rfl, hrd⟩⟩ (fun _ _ e _ => by cases e; rfl)
  clear h hrd hcl hY hJd h0 ha hb hlo
  go_enter Yba.func35, Yba.ntmps35
  go_wp2
  refine Held.region_held (n := 1) (S := fun w => w.cell? ⟨gx, 0, none⟩ = some (.pointer (some ⟨gb, 0, none⟩)) ∧ w.cell? ⟨fx, 0, none⟩ = some (.int .i64 (fr : Int)) ∧ w.cell? ⟨tx, 0, none⟩ = some (.int .i64 (to : Int)) ∧ w.cell? ⟨gb, 0, none⟩ = some (.int .i64 (size : Int)) ∧ w.cell? ⟨gb, 3, none⟩ = some (.slice (some ⟨gt, 0, none⟩) lo gcap)) (by kernel_rfl) ?_
  change Held.AnyH _ _ _ _ _ _ _ _ _ (World.drew W)
  have hS : (fun w : World => w.cell? ⟨gx, 0, none⟩ = some (.pointer (some ⟨gb, 0, none⟩)) ∧ w.cell? ⟨fx, 0, none⟩ = some (.int .i64 (fr : Int)) ∧ w.cell? ⟨tx, 0, none⟩ = some (.int .i64 (to : Int)) ∧ w.cell? ⟨gb, 0, none⟩ = some (.int .i64 (size : Int)) ∧ w.cell? ⟨gb, 3, none⟩ = some (.slice (some ⟨gt, 0, none⟩) lo gcap)) W.drew := ⟨cg, hfx, ct, c0, c3⟩
  refine Held.any_take (i := 0) (v := ?_) rfl (by kernel_rfl) (by kernel_rfl) (by kernel_rfl) (fun _ _ _ h => h) (Or.inl ⟨by rfl, ?_⟩) hS ?_
  rotate_left
  · rintro w ⟨k1, k2, k3, k4, k5⟩
    go_simp
    try with_reducible rfl
  refine Held.any_take (i := 1) (v := ?_) rfl (by kernel_rfl) (by kernel_rfl) (by kernel_rfl) (fun _ _ _ h => h) (Or.inl ⟨by rfl, ?_⟩) hS ?_
  rotate_left
  · rintro w ⟨k1, k2, k3, k4, k5⟩
    go_simp
    try with_reducible rfl
  refine Held.any_take (i := 2) (v := ?_) rfl (by kernel_rfl) (by kernel_rfl) (by kernel_rfl) (fun _ _ _ h => h) (Or.inl ⟨by rfl, ?_⟩) hS ?_
  rotate_left
  · rintro w ⟨k1, k2, k3, k4, k5⟩
    go_simp
    try with_reducible rfl
  refine Held.any_take (i := 3) (v := ?_) rfl (by kernel_rfl) (by kernel_rfl) (by kernel_rfl) (fun _ _ _ h => h) (Or.inl ⟨by rfl, ?_⟩) hS ?_
  rotate_left
  · rintro w ⟨k1, k2, k3, k4, k5⟩
    go_simp
    try with_reducible rfl
  refine Held.any_take (i := 4) (v := ?_) rfl (by kernel_rfl) (by kernel_rfl) (by kernel_rfl) (fun _ _ _ h => h) (Or.inl ⟨by rfl, ?_⟩) hS ?_
  rotate_left
  · rintro w ⟨k1, k2, k3, k4, k5⟩
    go_simp
    try with_reducible rfl
  refine Held.any_take (i := 5) (v := ?_) rfl (by kernel_rfl) (by kernel_rfl) (by kernel_rfl) (fun _ _ _ h => h) (Or.inl ⟨by rfl, ?_⟩) hS ?_
  rotate_left
  · rintro w ⟨k1, k2, k3, k4, k5⟩
    go_simp
    try with_reducible rfl
  refine Held.any_take (i := 6) (v := ?_) rfl (by kernel_rfl) (by kernel_rfl) (by kernel_rfl) (fun _ _ _ h => h) (Or.inl ⟨by rfl, ?_⟩) hS ?_
  rotate_left
  · rintro w ⟨k1, k2, k3, k4, k5⟩
    go_simp
    try with_reducible rfl
  refine Held.any_take (i := 7) (v := ?_) rfl (by kernel_rfl) (by kernel_rfl) (by kernel_rfl) (fun _ _ _ h => h) (Or.inl ⟨by rfl, ?_⟩) hS ?_
  rotate_left
  · rintro w ⟨k1, k2, k3, k4, k5⟩
    go_simp
    try with_reducible rfl
  refine Held.any_take (i := 8) (v := ?_) rfl (by kernel_rfl) (by kernel_rfl) (by kernel_rfl) (fun _ _ _ h => h) (Or.inl ⟨by rfl, ?_⟩) hS ?_
  rotate_left
  · rintro w ⟨k1, k2, k3, k4, k5⟩
    go_simp
    try with_reducible rfl
  refine Held.any_take (i := 9) (v := ?_) rfl (by kernel_rfl) (by kernel_rfl) (by kernel_rfl) (fun _ _ _ h => h) (Or.inl ⟨by rfl, ?_⟩) hS ?_
  rotate_left
  · rintro w ⟨k1, k2, k3, k4, k5⟩
    go_simp
    try with_reducible rfl
  refine Held.any_take (i := 10) (v := ?_) rfl (by kernel_rfl) (by kernel_rfl) (by kernel_rfl) (fun _ _ _ h => h) (Or.inl ⟨by rfl, ?_⟩) hS ?_
  rotate_left
  · rintro w ⟨k1, k2, k3, k4, k5⟩
    go_simp
    try with_reducible rfl
  refine Held.any_take (i := 11) (v := ?_) rfl (by kernel_rfl) (by kernel_rfl) (by kernel_rfl) (fun _ _ _ h => h) (Or.inl ⟨by rfl, ?_⟩) hS ?_
  rotate_left
  · rintro w ⟨k1, k2, k3, k4, k5⟩
    go_simp
    try with_reducible rfl
  refine Held.any_take (i := 12) (v := ?_) rfl (by kernel_rfl) (by kernel_rfl) (by kernel_rfl) (fun _ _ _ h => h) (Or.inl ⟨by rfl, ?_⟩) hS ?_
  rotate_left
  · rintro w ⟨k1, k2, k3, k4, k5⟩
    go_simp
    try with_reducible rfl
  refine Held.any_take (i := 13) (v := ?_) rfl (by kernel_rfl) (by kernel_rfl) (by kernel_rfl) (fun _ _ _ h => h) (Or.inl ⟨by rfl, ?_⟩) hS ?_
  rotate_left
  · rintro w ⟨k1, k2, k3, k4, k5⟩
    go_simp
    try with_reducible rfl
  refine Held.any_take (i := 14) (v := ?_) rfl (by kernel_rfl) (by kernel_rfl) (by kernel_rfl) (fun _ _ _ h => h) (Or.inl ⟨by rfl, ?_⟩) hS ?_
  rotate_left
  · rintro w ⟨k1, k2, k3, k4, k5⟩
    go_simp
    try with_reducible rfl
  refine Held.any_take (i := 15) (v := ?_) rfl (by kernel_rfl) (by kernel_rfl) (by kernel_rfl) (fun _ _ _ h => h) (Or.inl ⟨by rfl, ?_⟩) hS ?_
  rotate_left
  · rintro w ⟨k1, k2, k3, k4, k5⟩
    go_simp
    try with_reducible rfl
  refine Held.any_take (i := 16) (v := ?_) rfl (by kernel_rfl) (by kernel_rfl) (by kernel_rfl) (fun _ _ _ h => h) (Or.inl ⟨by rfl, ?_⟩) hS ?_
  rotate_left
  · rintro w ⟨k1, k2, k3, k4, k5⟩
    go_simp
    try with_reducible rfl
  refine Held.any_take (i := 17) (v := .slice (some ⟨gt, a, none⟩) (b - a) (gcap - a)) rfl (by kernel_rfl) (by kernel_rfl) (by kernel_rfl) (fun _ _ _ h => h) (Or.inl ⟨by rfl, ?_⟩) hS ?_
  · rintro w ⟨k1, k2, k3, k4, k5⟩
    have q1 : (0 : Int) ≤ (a : Int) := by omega
    have q2 : (a : Int) ≤ (b : Int) := by omega
    have q3 : (b : Int) ≤ (gcap : Int) := by omega
    have q4 : IntKind.i64.wrap (a : Int) = (a : Int) := by rw [IntKind.wrap_i64]; omega
    have q5 : IntKind.i64.wrap (b : Int) = (b : Int) := by rw [IntKind.wrap_i64]; omega
    go_simp
  refine Held.any_last (i := 18) (by kernel_rfl) rfl (by rfl) (by kernel_rfl) ?_
  refine ⟨Held.wide_fn, ?_⟩
  go_simp
  refine hR.mono ?_
  rintro e W2 ⟨rfl, hJ2⟩
  refine ⟨HJS.out W2 hJ2, ?_⟩
  have HJ2 := hid hJ2
  clear hJ2
  go_wp2
  exact bodyPost_ret (results_none rfl _ _ _) rfl ⟨rfl, HJ2.out⟩
end Go.Proofs.Ybulkehgw.Chk
