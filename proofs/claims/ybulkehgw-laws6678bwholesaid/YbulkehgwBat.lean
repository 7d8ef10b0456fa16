/-
  bucketAt (f36) by sort.Search (f42) over the starts (f43).
-/
import Derived.Test.YbulkehgwAddL
namespace Go.Proofs.Ybulkehgw.Bat
open Go.RowKit Pl Mem Bld AddZ AddL

/-- The closure: is starts[j] > i? -/
theorem more_any (gbox ibox gb sb N i j : Nat) (f : Nat → Nat) (w : World) (h1 : w.cell? ⟨gbox, 0, none⟩ = some (.pointer (some ⟨gb, 0, none⟩))) (h2 : w.cell? ⟨ibox, 0, none⟩ = some (.int .i64 (i : Int))) (h3 : w.cell? ⟨gb, 2, none⟩ = some (.slice (some ⟨sb, 0, none⟩) N N)) (hs : Cl w sb 23 (u32s N f)) (hj : j < N) (_hN : N ≤ 65537) (hf : f j ≤ 1048576) (_hi : i ≤ 1048576) :
    Calls Yba.prog 43 #[.int .i64 (j : Int), .pointer (some ⟨gbox, 0, none⟩), .pointer (some ⟨ibox, 0, none⟩)] w fun e w' => e = .returned (.bool (decide (i < f j))) ∧ Drawn w w' := by
  have c := hs.cell j (by rw [u32s_len]; exact hj)
  rw [u32s_at] at c
  obtain ⟨v, hv⟩ : ∃ v, f j = v := ⟨_, rfl⟩
  rw [hv] at c hf ⊢
  have c' : w.cell? ⟨sb, j, none⟩ = some (.int .u32 (v : Int)) := c
  have hjN : (j : Int) < (N : Int) := by omega
  clear hs c
  go_enter Yba.func43, Yba.ntmps43
  go_wp2
  go_quiet (fail)
  go_wp2
  go_ret
  exact ⟨rfl, ⟨nq, rfl⟩⟩

theorem Drawn.trans {a b c : World} (h : Drawn a b) (k : Drawn b c) : Drawn a c := by
  obtain ⟨m, rfl⟩ := k
  exact Drawn.more h m
/-- How far the search has come. -/
structure Srch (N i : Nat) (f : Nat → Nat) (a b : Nat) : Prop where
  ab : a ≤ b
  bN : b ≤ N
  lo : ∀ x, x < a → f x ≤ i
  hi : ∀ x, b ≤ x → x < N → i < f x

set_option maxHeartbeats 1000000 in
theorem search_any (gbox ibox gb sb N i : Nat) (f : Nat → Nat) (w : World) (h1 : w.cell? ⟨gbox, 0, none⟩ = some (.pointer (some ⟨gb, 0, none⟩))) (h2 : w.cell? ⟨ibox, 0, none⟩ = some (.int .i64 (i : Int))) (h3 : w.cell? ⟨gb, 2, none⟩ = some (.slice (some ⟨sb, 0, none⟩) N N)) (hs : Cl w sb 23 (u32s N f)) (hN : N ≤ 65537) (hf : ∀ j, f j ≤ 1048576) (hmono : ∀ x y, x ≤ y → f x ≤ f y) (hi : i ≤ 1048576) :
    Calls Yba.prog 42 #[.int .i64 (N : Int), .func (.func 43) #[] #[.pointer (some ⟨gbox, 0, none⟩), .pointer (some ⟨ibox, 0, none⟩)]] w fun e w' => ∃ r : Nat, e = .returned (.int .i64 (r : Int)) ∧ r ≤ N ∧ (∀ x, x < r → f x ≤ i) ∧ (∀ x, r ≤ x → x < N → i < f x) ∧ Drawn w w' := by
  have hcall : ∀ (j : Nat) (w' : World), Drawn w w' → j < N → Calls Yba.prog 43 #[.int .i64 (j : Int), .pointer (some ⟨gbox, 0, none⟩), .pointer (some ⟨ibox, 0, none⟩)] w' fun e w'' => e = .returned (.bool (decide (i < f j))) ∧ Drawn w' w'' := fun j w' hd hj =>
    more_any gbox ibox gb sb N i j f w' ((Drawn.cell hd _).trans h1) ((Drawn.cell hd _).trans h2) ((Drawn.cell hd _).trans h3) (hs.same (by rw [hd.heap])) hj hN (hf j) hi
  have HCA := hid hcall
  have HM := hid hmono
  clear hcall hmono hs h1 h2 h3 hf
  go_enter Yba.func42, Yba.ntmps42
  go_wp2
  go_loopw [5, 6, 7] (fun av bv _ wr => ∃ a b : Nat, av = .int .i64 (a : Int) ∧ bv = .int .i64 (b : Int) ∧ Srch N i f a b ∧ Drawn w wr) (fun av bv _ _ => (intOf bv).toNat - (intOf av).toNat)
  case atStart => exact ⟨0, N, rfl, rfl, ⟨Nat.zero_le _, Nat.le_refl _, fun x h => absurd h (by omega), fun x h1 h2 => by omega⟩, Drawn.refl _⟩
  case round =>
    obtain ⟨a, b, rfl, rfl, hsr, hdr⟩ := hrel
    have hab := hsr.ab
    have hbN := hsr.bN
    have HS := hid hsr
    have HD := hid hdr
    by_cases hlt : a < b
    · have hmid : ∃ m : Nat, m = (a + b) / 2 ∧ a ≤ m ∧ m < b := ⟨(a + b) / 2, rfl, by omega, by omega⟩
      obtain ⟨m, hm0, hm1, hm2⟩ := hmid
      have hmI : ((a : Int) + (b : Int)) / 2 = (m : Int) := by omega
      clear hsr hdr hm0
      go_wp2_with fail
      refine (HCA.out m wr HD.out (by omega)).mono ?_
      rintro e w2 ⟨rfl, hd2⟩
      have hd3 := Drawn.trans HD.out hd2
      have HD3 := hid hd3
      clear hd2 hd3
      by_cases hc : i < f m
      · have hsr : Srch N i f a m := ⟨hm1, by omega, HS.out.lo, fun x h1 _ => Nat.lt_of_lt_of_le hc (HM.out m x h1)⟩
        have HSR := hid hsr
        clear hsr
        rw [decide_eq_true hc]
        go_wp2
        go_roundw
        case rel => exact ⟨a, m, rfl, rfl, HSR.out, HD3.out⟩
        case measure => simp [intOf]; omega
      · have hsr : Srch N i f (m + 1) b := ⟨by omega, hbN, fun x h1 => Nat.le_trans (HM.out x m (by omega)) (by omega), HS.out.hi⟩
        have HSR := hid hsr
        clear hsr
        rw [decide_eq_false hc]
        go_wp2
        go_roundw
        case rel => exact ⟨m + 1, b, by go_num, rfl, HSR.out, HD3.out⟩
        case measure => simp [intOf]; omega
    · obtain rfl : a = b := by omega
      clear hsr hdr
      go_wp2
      go_ret
      exact ⟨a, rfl, HS.out.bN, HS.out.lo, HS.out.hi, HD.out⟩
theorem cnt_mono (lead : Nat) (P : List Bs) (x y : Nat) (h : x ≤ y) : cnt lead P x ≤ cnt lead P y := by
  unfold cnt
  apply List.countP_mono_left
  intro p _ hp
  simp only [decide_eq_true_eq] at hp ⊢
  omega
set_option maxHeartbeats 1000000 in
theorem bucketAt_any (gb sb size lead i : Nat) (P : List Bs) (w : World) (h3 : w.cell? ⟨gb, 2, none⟩ = some (.slice (some ⟨sb, 0, none⟩) (nb lead) (nb lead))) (hs : Cl w sb 23 (u32s (nb lead) (cnt lead P))) (hP : ∀ p ∈ P, Okp size p) (hM : Mono lead P) (hls : lead ≤ size) (hl2 : lead ≤ 2) (hi : i < P.length) (hm : P.length ≤ 1048576) :
    Calls Yba.prog 36 #[.pointer (some ⟨gb, 0, none⟩), .int .i64 (i : Int)] w fun e w' => e = .returned (.int .i64 (bkt lead P[i] : Int)) ∧ Below w.heap.size w w' := by
  have hnb : nb lead ≤ 65537 := by
    have : lead = 0 ∨ lead = 1 ∨ lead = 2 := by omega
    rcases this with rfl | rfl | rfl <;> decide
  have hgl : gb < w.heap.size := World.block_lt_of_cell? w _ h3
  obtain ⟨W, hW⟩ : ∃ W, (w.alloc (.cells #[.pointer (some ⟨gb, 0, none⟩)] 38)).alloc (.cells #[.int .i64 (i : Int)] 3) = W := ⟨_, rfl⟩
  have hbW : Below w.heap.size w W := by rw [← hW]; exact ((Below.refl _ w).alloc (Nat.le_refl _) _).alloc (by simp) _
  have k1 : W.cell? ⟨w.heap.size, 0, none⟩ = some (.pointer (some ⟨gb, 0, none⟩)) := by
    rw [← hW]
    have := (Cl.new w 38 #[.pointer (some ⟨gb, 0, none⟩)]).below ((Below.refl _ _).alloc (Nat.le_refl _) (.cells #[.int .i64 (i : Int)] 3)) (by simp)
    exact this.cell 0 (by simp)
  have k2 : W.cell? ⟨w.heap.size + 1, 0, none⟩ = some (.int .i64 (i : Int)) := by
    rw [← hW]
    have := (Cl.new (w.alloc (.cells #[.pointer (some ⟨gb, 0, none⟩)] 38)) 3 #[.int .i64 (i : Int)]).cell 0 (by simp)
    rwa [World.size_alloc] at this
  have hcall := search_any w.heap.size (w.heap.size + 1) gb sb (nb lead) i (cnt lead P) W k1 k2 ((hbW.cell hgl).trans h3) (hs.below hbW hs.lt) hnb (fun j => Nat.le_trans (cnt_le _ _ _) hm) (fun x y h => cnt_mono lead P x y h) (by omega)
  have k3 := (hbW.cell hgl).trans h3
  rw [← hW] at hcall k3
  have HCA := hid hcall
  have HM := hid hM
  have HPP := hid hP
  clear hcall hs hM hW k1 k2 hbW
  obtain ⟨N, hN⟩ : ∃ N, nb lead = N := ⟨_, rfl⟩
  rw [hN] at k3 h3 hnb HCA
  go_enter Yba.func36, Yba.ntmps36
  go_wp2_with fail
  refine HCA.out.mono ?_
  rintro e w2 ⟨r, rfl, hr1, hr2, hr3, hd⟩
  have hb2 : Below w.heap.size w w2 := (((Below.refl _ w).alloc (Nat.le_refl _) _).alloc (by simp) _).trans (hd.below _)
  have hbk : bkt lead P[i] + 1 = r := by
    have hlt := bkt_lt (HPP.out P[i] (List.getElem_mem hi)) hls
    have hNN : bkt lead P[i] + 1 < N + 1 := by rw [← hN]; unfold nb; omega
    have a1 : ¬ r ≤ bkt lead P[i] := fun h => by
      have := (lt_cnt HM.out i hi _).1 (hr3 (bkt lead P[i]) h (by omega))
      omega
    have a2 : ¬ bkt lead P[i] + 1 < r := fun h => by
      have h1 := hr2 _ h
      have h2 := (lt_cnt HM.out i hi (bkt lead P[i] + 1)).2 (by omega)
      omega
    omega
  have HB2 := hid hb2
  have hr0 : (r : Int) - 1 = (bkt lead P[i] : Int) := by omega
  have hrN : (r : Int) ≤ 65537 := by omega
  clear hb2 hbk hd hr2 hr3
  go_wp2
  go_ret
  exact ⟨rfl, HB2.out⟩
end Go.Proofs.Ybulkehgw.Bat
