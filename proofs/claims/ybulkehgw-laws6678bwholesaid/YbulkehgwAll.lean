/-
  The pieces at every lead; the clones; the order of the bytes.
-/
import Derived.Test.YbulkehgwSrt
import Derived.Test.YbulkehgwCpz
import Derived.Test.YbulkehgwCpt
namespace Go.Proofs.Ybulkehgw.All
open Go.RowKit Pl Mem Bld AddZ AddL Grp Chk Cpy Cpz Cpt Lb Srt

theorem of_lt {a b : Nat} (ha : a < 256) (hb : b < 256) : UInt8.ofNat a < UInt8.ofNat b ↔ a < b := by
  rw [UInt8.lt_iff_toNat_lt]
  simp only [UInt8.toNat_ofNat']
  rw [Nat.mod_eq_of_lt (by omega), Nat.mod_eq_of_lt (by omega)]
theorem by8_lt : ∀ (x y : Bs), (∀ c ∈ x, c < 256) → (∀ c ∈ y, c < 256) → x < y → by8 x < by8 y
  | [], [], _, _, h => absurd h (List.lt_irrefl _)
  | [], b :: t, _, _, _ => by simp [by8]
  | a :: r, [], _, _, h => by simp at h
  | a :: r, b :: t, hx, hy, h => by
    have ha := hx a (by simp)
    have hb := hy b (by simp)
    rw [List.cons_lt_cons_iff] at h
    show (UInt8.ofNat a :: by8 r) < (UInt8.ofNat b :: by8 t)
    rw [List.cons_lt_cons_iff]
    rcases h with h | ⟨h, h2⟩
    · exact .inl ((of_lt ha hb).2 h)
    · exact .inr ⟨by rw [h], by8_lt r t (fun c hc => hx c (by simp [hc])) (fun c hc => hy c (by simp [hc])) h2⟩
theorem le_of_by8 {x y : Bs} (hx : ∀ c ∈ x, c < 256) (hy : ∀ c ∈ y, c < 256) (h : by8 x ≤ by8 y) : x ≤ y := by
  refine List.not_lt.1 fun hl => ?_
  exact absurd (by8_lt y x hy hx hl) (List.not_lt.2 h)

theorem new_any (size lead n cap : Nat) (w : World) (hl2 : lead ≤ 2) (h1 : lead < size) (h4 : size ≤ 4) (hn : n ≤ 1048576) (hc : n * (size - lead) = cap) :
    Calls Yba.prog 10 #[.int .i64 (size : Int), .int .i64 (lead : Int), .int .i64 (n : Int)] w (New w size lead cap) := by
  have : lead = 0 ∨ lead = 1 ∨ lead = 2 := by omega
  rcases this with rfl | rfl | rfl
  · exact new_zero size n cap w (by omega) h4 hn hc
  · exact new_one size n cap w (by omega) h4 hn hc
  · exact new_two size n cap w (by omega) h4 hn hc
theorem group_any (ao : Option Addr) (c size lead : Nat) (P : List Bs) (w : World) (h : Ps w ao size P) (hm : P.length ≤ 1048576) (hl2 : lead ≤ 2) (h1 : lead < size) (hs : size ≤ 4) :
    Calls Yba.prog 8 #[.slice ao P.length c, .int .i64 (size : Int), .int .i64 (lead : Int)] w (GrpPost w size lead P) := by
  have : lead = 0 ∨ lead = 1 ∨ lead = 2 := by omega
  rcases this with rfl | rfl | rfl
  · exact group_zero ao c size P w h hm (by omega) hs
  · exact group_one ao c size P w h hm (by omega) hs
  · exact group_two ao c size P w h hm (by omega) hs
/-- What copy leaves. -/
def Copied (w : World) (bb tb sb size dl cap : Nat) (P : List Bs) (e : Ending) (w' : World) : Prop := e = .returned (.tuple #[]) ∧ ∃ ub, Bd w' bb tb sb size dl cap P (.slice (some ⟨ub, 0, none⟩) 16384 16384) ∧ Keeps (fun k => k = bb ∨ k = tb ∨ k = sb) w w'
theorem copy_any (bb tb sb gb gt gs size sl dl cap gcap fr to : Nat) (A Ps : List Bs) (w : World) (hB : Bd w bb tb sb size dl cap A (.slice none 0 0)) (hG : Gr w gb gt gs size sl gcap Ps) (hft : fr < to)
    (hap : bb ≠ gb ∧ bb ≠ gt ∧ tb ≠ gb ∧ tb ≠ gt ∧ sb ≠ gb ∧ sb ≠ gt ∧ sb < w.heap.size) (hap2 : sl ≠ 0 → bb ≠ gs ∧ tb ≠ gs ∧ sb ≠ gs) (hP : ∀ p ∈ Ps, Okp size p) (hA : ∀ p ∈ A, Okp size p) (hM : Mono sl Ps) (hMA : Mono dl (A ++ cut Ps fr to)) (hm : Ps.length ≤ 1048576) (hto : to ≤ Ps.length) (hs2 : sl ≤ 2) (hs1 : sl < size) (hs : size ≤ 4) (hgc : len size sl Ps ≤ gcap) (hgm : gcap ≤ 4194304) (hdl : dl ≤ 2) (hds : dl < size) (hfit : (A ++ cut Ps fr to).length * (size - dl) ≤ cap) (hcap : cap ≤ 4194304) :
    Calls Yba.prog 12 #[.pointer (some ⟨bb, 0, none⟩), .pointer (some ⟨gb, 0, none⟩), .int .i64 (fr : Int), .int .i64 (to : Int)] w (Copied w bb tb sb size dl cap (A ++ cut Ps fr to)) := by
  have : sl = 0 ∨ sl = 1 ∨ sl = 2 := by omega
  rcases this with rfl | rfl | rfl
  · exact copy_zero bb tb sb gb gt gs size dl cap gcap fr to A Ps w hB hG hft hap hP hA hMA hm hto (by omega) hs hgc hgm hdl hds hfit hcap
  · have h2 := hap2 (by decide)
    exact copy_one bb tb sb gb gt gs size dl cap gcap fr to A Ps w hB hG hft ⟨hap.1, hap.2.1, h2.1, hap.2.2.1, hap.2.2.2.1, h2.2.1, hap.2.2.2.2.1, hap.2.2.2.2.2.1, h2.2.2, hap.2.2.2.2.2.2⟩ hP hA hM hMA hm hto hs1 hs hgc hgm hdl hds hfit hcap
  · have h2 := hap2 (by decide)
    exact copy_two bb tb sb gb gt gs size dl cap gcap fr to A Ps w hB hG hft ⟨hap.1, hap.2.1, h2.1, hap.2.2.1, hap.2.2.2.1, h2.2.1, hap.2.2.2.2.1, hap.2.2.2.2.2.1, h2.2.2, hap.2.2.2.2.2.2⟩ hP hA hM hMA hm hto hs1 hs hgc hgm hdl hds hfit hcap

/-! slices.Clone. -/
theorem clone8 (b off n c : Nat) (bs : Bs) (w : World) (h : Rd w b off bs) (hn : bs.length = n) (hm : n ≤ 4194304) :
    Calls Yba.prog 5 #[.slice (some ⟨b, off, none⟩) n c] w fun e w' => ∃ g cap, e = .returned (.slice (some ⟨g, 0, none⟩) n cap) ∧ Tl w' g cap bs ∧ n ≤ cap ∧ cap ≤ 9223372036854775807 ∧ w.heap.size ≤ g ∧ Below w.heap.size w w' := by
  obtain ⟨i5, hi5, hz50, hz51, hz52⟩ := info_parts Yba.rowInfo5
  refine Calls.mono (AnyE.slices_Clone Yba.laysSlE041_f5 i5 _ 1 1 hi5 hz50 hz51 hz52 rfl (by decide) (fun w => Yba.sizeOf5 w) b off n c (u8s bs) w (by rw [u8s_len, hn, Nat.mul_one]) (by simp only [maxLen]; omega) (by omega) (fun j u hj => ?_) (u8_one bs)) ?_
  · have := rd_cells h ⟨b, off, none⟩ rfl j u hj
    rwa [show (⟨b, off, none⟩ : Addr).add j = ⟨b, off + j, none⟩ from by simp [Addr.add]] at this
  · rintro e w' ⟨v', rfl, ho, hne, hb⟩
    rcases ho.2 with ⟨h0, _⟩ | ⟨g, cap, cur, rfl, hbg, hg, h1, h2, h3, h4⟩
    · exact absurd h0 hne
    · have hg' : w'.heap[g]? = some (.cells cur 5 (0, 0)) := hg
      refine ⟨g, cap, rfl, ⟨cur.toList, by unfold Cl; simpa using hg', by simpa using h3, by rw [hn]; simpa using h4⟩, h1, by simpa [maxLen] using h2, hbg, hb⟩
theorem clone32 (b n c : Nat) (f : Nat → Nat) (w : World) (h : Cl w b 23 (u32s n f)) (hm : n ≤ 65537) :
    Calls Yba.prog 9 #[.slice (some ⟨b, 0, none⟩) n c] w fun e w' => ∃ g cap, e = .returned (.slice (some ⟨g, 0, none⟩) n cap) ∧ (∃ cs, Cl w' g 23 cs ∧ cs.take n = u32s n f) ∧ w.heap.size ≤ g ∧ Below w.heap.size w w' := by
  obtain ⟨i23, hi23, hz230, hz231, hz232⟩ := info_parts Yba.rowInfo23
  refine Calls.mono (AnyE.slices_Clone Yba.laysSlE041_f9 i23 _ 1 4 hi23 hz230 hz231 hz232 rfl (by decide) (fun w => Yba.sizeOf23 w) b 0 n c (u32s n f) w (by rw [u32s_len, Nat.mul_one]) (by simp only [maxLen]; omega) (by omega) (fun j u hj => ?_) (fun u hu => ?_)) ?_
  · rw [Nat.zero_add, h.cell?]; exact hj
  · obtain ⟨j, _, rfl⟩ := List.mem_map.1 hu; rfl
  · rintro e w' ⟨v', rfl, ho, hne, hb⟩
    rcases ho.2 with ⟨h0, _⟩ | ⟨g, cap, cur, rfl, hbg, hg, h1, h2, h3, h4⟩
    · exact absurd h0 hne
    · have hg' : w'.heap[g]? = some (.cells cur 23 (0, 0)) := hg
      exact ⟨g, cap, rfl, ⟨cur.toList, by unfold Cl; simpa using hg', by simpa using h4⟩, hbg, hb⟩
theorem clone32_nil (w : World) : Calls Yba.prog 9 #[.slice none 0 0] w fun e w' => e = .returned (.slice none 0 0) ∧ w' = w := AnyE.slices_Clone_nil Yba.laysSlE041_f9 0 0 w
theorem Yba.rowInfo22 : (Yba.prog.info? 22).map (fun i => (i.zero, i.size, i.bytes)) = some (some (.slice none 0 0), 1, 24) := by kernel_rfl
theorem clone24 (b n c : Nat) (cs : List Value) (w : World) (h : Cl w b 22 cs) (hn : n ≤ cs.length) (hm : n ≤ 1048576) (hone : ∀ u ∈ cs, u.oneCell' = true) :
    Calls Yba.prog 15 #[.slice (some ⟨b, 0, none⟩) n c] w fun e w' => ∃ g cap, e = .returned (.slice (some ⟨g, 0, none⟩) n cap) ∧ w'.ownsRow w.heap.size 22 1 (.slice (some ⟨g, 0, none⟩) n cap) n (cs.take n) ∧ Below w.heap.size w w' := by
  obtain ⟨i22, hi22, hz220, hz221, hz222⟩ := info_parts Yba.rowInfo22
  refine Calls.mono (AnyE.slices_Clone Yba.laysSlE041_f15 i22 _ 1 24 hi22 hz220 hz221 hz222 rfl (by decide) (fun w => Yba.sizeOf22 w) b 0 n c (cs.take n) w (by rw [List.length_take, Nat.min_eq_left hn, Nat.mul_one]) (by simp only [maxLen]; omega) (by omega) (fun j u hj => ?_) (fun u hu => hone u (List.mem_of_mem_take hu))) ?_
  · rw [Nat.zero_add, h.cell?]
    rw [List.getElem?_take] at hj
    split at hj
    · exact hj
    · cases hj
  · rintro e w' ⟨v', rfl, ho, hne, hb⟩
    rcases ho.2 with ⟨h0, _⟩ | ⟨g, cap, cur, rfl, hbg, hg, h1, h2, h3, h4⟩
    · exact absurd h0 hne
    · exact ⟨g, cap, rfl, ho, hb⟩
end Go.Proofs.Ybulkehgw.All
