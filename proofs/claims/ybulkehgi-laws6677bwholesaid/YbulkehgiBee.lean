import Derived.Test.YbulkehgiBytes
import Derived.Test.YbulkehgiQuoted
import Derived.Deep.RegionLaw
import Derived.Deep.RegionHeld3
import Derived.Lib.Strings
namespace Go.Proofs.Ybulkehgi.Bee
open Go.RowKit Quoted Bytes

/-- The call hands back the text and the rest. -/
def Ans2 (s : ByteArray) (e : Ending) : Prop := ∃ t r : ByteArray, e = .returned (.tuple #[.string t, .string r]) ∧ qt (s.data.toList.drop 1) = (t.data.toList, r.data.toList)

theorem hide' {p : Prop} (h : p) : Hid p := h
theorem byte_ne {c : UInt8} (n : Nat) (hn : n < 256) (h : ¬ c = UInt8.ofNat n) : ((c.toNat : Int) == (n : Int)) = false := by
  rw [beq_eq_false_iff_ne]
  intro e
  apply h
  apply UInt8.toNat_inj.1
  simp [Nat.mod_eq_of_lt hn]
  omega
theorem byte_is {c : UInt8} (n : Nat) (hn : n < 256) (h : c = UInt8.ofNat n) : ((c.toNat : Int) == (n : Int)) = true := by
  subst h
  simp [Nat.mod_eq_of_lt hn]
theorem get_at (s : ByteArray) (k : Nat) (h : k < s.size) : s.data.toList[k]'(by simpa using h) = s[k] := rfl
theorem len_at (s : ByteArray) : s.data.toList.length = s.size := by rw [Array.length_toList]; rfl
theorem extract_drop (s : ByteArray) (k : Nat) : (s.extract k s.size).data.toList = s.data.toList.drop k := by
  rw [Lib.extract_data, List.take_of_length_le]; simp

set_option maxHeartbeats 1000000 in
set_option maxRecDepth 100000 in
theorem model_any (s : ByteArray) (w : World) (hs : s.size ≤ 1048576) (h1 : 1 ≤ s.size) :
    Calls Yba.prog 14 #[.string s] w fun e w' => Ans2 s e ∧ Below w.heap.size w w' := by
  go_enter Yba.func14, Yba.ntmps14
  go_wp2
  go_loopw [4, 5] (fun v j wr => ∃ (k n cap : Nat) (ao : Option Addr) (acc : List UInt8), 1 ≤ k ∧ k ≤ s.size + 1 ∧ n ≤ k ∧ j = .int .i64 k ∧ v = .slice ao n cap ∧ Own wr w.heap.size ao n cap acc ∧ Mid s.data.toList acc k ∧ Below w.heap.size w wr)
    (fun _ j _ => s.size + 1 - (intOf j).toNat)
  case atStart => exact ⟨1, 0, 0, none, [], by omega, by omega, by omega, rfl, rfl, Own.nil _ _, Mid.start _, Below.refl _ _⟩
  case round =>
    obtain ⟨k, n, cap, ao, acc, hk1, hk2, hnk, rfl, rfl, hown, hmid, hbel⟩ := hrel
    have hbase := hbel.size
    by_cases hlt : k < s.size
    · by_cases c1 : s[k] = 34
      · have t1 : ((s[k].toNat : Int) == 34) = true := byte_is 34 (by omega) c1
        have HQ := hmid.quote (by rw [len_at]; exact hlt) c1
        clear c1
        have hcv := hown.drew.conv
        go_wp2
        go_region
        all_goals (go_wp2; go_ret2; exact ⟨⟨_, _, rfl, by rw [HQ, extract_drop]⟩, hbel.drew⟩)
      have t1 : ((s[k].toNat : Int) == 34) = false := byte_ne 34 (by omega) c1
      by_cases c2 : s[k] = 92
      · have t2 : ((s[k].toNat : Int) == 92) = true := byte_is 92 (by omega) c2
        by_cases hk3 : k + 1 < s.size
        · have hk3' : (k : Int) + 1 < (s.size : Int) := by omega
          have HM := hmid.esc (by rw [len_at]; exact hk3) c2
          clear c1 c2
          go_wp2_with (at_builtin; refine wpList_app_one rfl _ _ rfl w.heap.size ao n cap acc s[k + 1] rfl rfl hown ?_ ?_ ?_)
          · omega
          · exact hbase
          intro ao' cap' w1 hown' hbel'
          clear hown hmid
          go_wp2
          go_roundw
          case rel => exact ⟨k + 2, n + 1, cap', ao', _, by omega, by omega, by omega, by go_num, rfl, hown', HM, hbel.trans hbel'⟩
          case measure => simp [intOf]; omega
        · have hk3' : ¬ (k : Int) + 1 < (s.size : Int) := by omega
          have HM := hmid.escEnd (by rw [len_at]; omega) c2
          clear c1 c2
          go_wp2
          go_roundw
          case rel => exact ⟨k + 2, n, cap, ao, _, by omega, by omega, by omega, by go_num, rfl, hown, HM, hbel⟩
          case measure => simp [intOf]; omega
      · have t2 : ((s[k].toNat : Int) == 92) = false := byte_ne 92 (by omega) c2
        have HM := hmid.plain (by rw [len_at]; exact hlt) c1 c2
        clear c1 c2
        go_wp2_with (at_builtin; refine wpList_app_one rfl _ _ rfl w.heap.size ao n cap acc s[k] rfl rfl hown ?_ ?_ ?_)
        · omega
        · exact hbase
        intro ao' cap' w1 hown' hbel'
        clear hown hmid
        go_wp2
        go_roundw
        case rel => exact ⟨k + 1, n + 1, cap', ao', _, by omega, by omega, by omega, by go_num, rfl, hown', HM, hbel.trans hbel'⟩
        case measure => simp [intOf]; omega
    · have HQ := hmid.over (by rw [len_at]; omega)
      have hcv := hown.conv
      go_wp2
      go_ret2
      exact ⟨⟨_, _, rfl, by rw [HQ]⟩, hbel⟩

theorem extract_part (s : ByteArray) (f k : Nat) : (s.extract f k).data.toList = Quoted.part s.data.toList f k := by
  rw [Lib.extract_data, Quoted.part, List.drop_take]
def Str (l : List UInt8) (e : Ending) : Prop := ∃ t : ByteArray, e = .returned (.string t) ∧ t.data.toList = l

set_option maxHeartbeats 1000000 in
set_option maxRecDepth 100000 in
theorem closure_any (B f k n cap : Nat) (ao : Option Addr) (acc : List UInt8) (s : ByteArray) (w : World) (hs : s.size ≤ 1048576) (hn : n ≤ 1048577)
    (hf1 : 1 ≤ f) (hfk : f ≤ k) (hks : k ≤ s.size) (hf : f = 1 → acc = []) (hB : B + 3 ≤ w.heap.size)
    (cf : w.cell? ⟨B + 1 + 1, 0, none⟩ = some (.int .i64 f)) (cs : w.cell? ⟨B, 0, none⟩ = some (.string s)) (ce : w.cell? ⟨B + 1, 0, none⟩ = some (.slice ao n cap)) (hown : Own w (B + 3) ao n cap acc) :
    Calls Yba.prog 22 #[.int .i64 k, .pointer (some ⟨B + 1 + 1, 0, none⟩), .pointer (some ⟨B, 0, none⟩), .pointer (some ⟨B + 1, 0, none⟩)] w fun e w' => Str (acc ++ Quoted.part s.data.toList f k) e ∧ Below (B + 3) w w' := by
  by_cases h1 : f = 1
  · subst h1
    have := hf rfl
    subst this
    clear hown ce hf
    have cf' : w.cell? ⟨B + 1 + 1, 0, none⟩ = some (.int .i64 1) := cf
    clear cf
    have hk1 : (1 : Int) ≤ (k : Int) := by omega
    have hk2 : (k : Int) ≤ (s.size : Int) := by omega
    go_enter Yba.func22, Yba.ntmps22
    go_wp2
    go_ret
    exact ⟨⟨_, rfl, extract_part _ _ _⟩, Below.refl _ _⟩
  · have t1 : ((f : Int) == 1) = false := by rw [beq_eq_false_iff_ne]; omega
    have hfk' : (f : Int) ≤ (k : Int) := by omega
    have hks' : (k : Int) ≤ (s.size : Int) := by omega
    have hsz : (s.extract f k).size = k - f := by
      have := congrArg List.length (Lib.extract_data s f k)
      rw [len_at] at this; rw [this]; simp; omega
    have HN : Hid (n + (s.extract f k).size ≤ 1099511627776) := by show _ ≤ _; rw [hsz]; omega
    have HE := hide' (extract_part s f k)
    have HZ := hide' hsz
    clear hsz hf
    go_enter Yba.func22, Yba.ntmps22
    go_wp2
    go_region_law (refine step_app_str rfl _ _ rfl (B + 3) ao n cap acc (s.extract f k) rfl rfl hown.drew HN.out hB ?_; intro ao' cap' w1 hown' hbel'; obtain ⟨t, ht, hcv⟩ := hown'.conv'; rw [HZ.out] at hcv)
    all_goals (go_wp2; go_ret; exact ⟨⟨_, rfl, by rw [ht.out, HE.out]⟩, (Below.refl _ w).drew.trans hbel'⟩)

/-- The three captured variables. -/
def Box (W : World) (B f n cap : Nat) (ao : Option Addr) (s : ByteArray) : Prop :=
  W.cell? ⟨B + 1 + 1, 0, none⟩ = some (.int .i64 f) ∧ W.cell? ⟨B, 0, none⟩ = some (.string s) ∧ W.cell? ⟨B + 1, 0, none⟩ = some (.slice ao n cap) ∧ W.frozen? ⟨B + 1 + 1, 0, none⟩ = false ∧ W.frozen? ⟨B + 1, 0, none⟩ = false
theorem Box.below {W W' : World} {B f n cap : Nat} {ao : Option Addr} {s : ByteArray} (h : Box W B f n cap ao s) (hb : Below (B + 3) W W') : Box W' B f n cap ao s := by
  obtain ⟨h1, h2, h3, h4, h5⟩ := h
  exact ⟨(hb.cell (by show B + 1 + 1 < B + 3; omega)).trans h1, (hb.cell (by show B < B + 3; omega)).trans h2, (hb.cell (by show B + 1 < B + 3; omega)).trans h3, (hb.frozen (by show B + 1 + 1 < B + 3; omega)).trans h4, (hb.frozen (by show B + 1 < B + 3; omega)).trans h5⟩
theorem Box.turned {W : World} {B f n cap f' n' cap' : Nat} {ao ao' : Option Addr} {s : ByteArray} {F : Int} (h : Box W B f n cap ao s) (hF : F = (f' : Int)) :
    Box ((W.setCell ⟨B + 1, 0, none⟩ (.slice ao' n' cap')).setCell ⟨B + 1 + 1, 0, none⟩ (.int .i64 F)) B f' n' cap' ao' s := by
  subst hF
  obtain ⟨h1, h2, h3, h4, h5⟩ := h
  have e1 : (W.setCell ⟨B + 1, 0, none⟩ (.slice ao' n' cap')).cell? ⟨B + 1 + 1, 0, none⟩ = some (.int .i64 f) := by rw [World.cell?_setCell_other (h := by simp), h1]
  refine ⟨World.cell?_setCell_same (h := e1) .., ?_, ?_, by simp [h4], by simp [h5]⟩
  · rw [World.cell?_setCell_other (h := by simp), World.cell?_setCell_other (h := by simp), h2]
  · rw [World.cell?_setCell_other (h := by simp), World.cell?_setCell_same (h := h3)]

theorem box_start (w : World) (s : ByteArray) : Box (((w.alloc (.cells #[.string s] 9)).alloc (.cells #[.slice none 0 0] 48)).alloc (.cells #[.int .i64 1] 3)) w.heap.size 1 0 0 none s := by
  refine ⟨?_, ?_, ?_, ?_, ?_⟩ <;> simp [go_sem]

def Rel (s : ByteArray) (w wr : World) (k : Nat) : Prop := ∃ (f n cap : Nat) (ao : Option Addr) (acc : List UInt8), 1 ≤ f ∧ f ≤ k ∧ f ≤ s.size ∧ n ≤ f ∧ (f = 1 → acc = []) ∧ Box wr w.heap.size f n cap ao s ∧ Own wr (w.heap.size + 3) ao n cap acc ∧ Quoted.Code s.data.toList acc f k ∧ Below w.heap.size w wr ∧ w.heap.size + 3 ≤ wr.heap.size

set_option maxHeartbeats 2000000 in
set_option maxRecDepth 100000 in
theorem cut_any (s : ByteArray) (w : World) (hs : s.size ≤ 1048576) (h1 : 1 ≤ s.size) :
    Calls Yba.prog 13 #[.string s] w fun e w' => Ans2 s e ∧ Below w.heap.size w w' := by
  go_enter Yba.func13, Yba.ntmps13
  go_wp2
  go_loopw [7] (fun i wr => ∃ k : Nat, 1 ≤ k ∧ k ≤ s.size + 1 ∧ i = .int .i64 k ∧ Rel s w wr k) (fun i _ => s.size + 1 - (intOf i).toNat)
  case atStart =>
    refine ⟨1, by omega, by omega, rfl, 1, 0, 0, none, [], by omega, by omega, h1, by omega, fun _ => rfl, ?_, Own.nil _ _, Code.start _, ?_, ?_⟩
    · exact box_start w s
    · exact (((Below.refl _ _).alloc (Nat.le_refl _) _).alloc (by simp) _).alloc (by simp; omega) _
    · simp
  case round =>
    obtain ⟨k, hk1, hk2, rfl, f, n, cap, ao, acc, hf1, hfk, hfs, hnk, hf, hbox, hown, hcode, hbel, hbase⟩ := hrel
    obtain ⟨cf, cs, ce, ff, fe⟩ := hbox
    have hbox : Hid (Box wr w.heap.size f n cap ao s) := ⟨cf, cs, ce, ff, fe⟩
    by_cases hlt : k < s.size
    · by_cases c1 : s[k] = 34
      · have t1 : ((s[k].toNat : Int) == 34) = true := byte_is 34 (by omega) c1
        have HQ := hide' (hcode.quote (by rw [len_at]; exact hlt) c1)
        clear c1
        have hk0 : (0 : Int) ≤ (k : Int) + 1 := by omega
        have hk4 : (k : Int) + 1 ≤ (s.size : Int) := by omega
        have hwr : IntKind.i64.wrap ((k : Int) + 1) = (k : Int) + 1 := by rw [IntKind.wrap_i64]; omega
        go_wp2
        go_region_with (go_at_call 22; refine (closure_any w.heap.size f k n cap ao acc s _ hs (by omega) hf1 hfk (by omega) hf (by exact hbase) (by exact cf) (by exact cs) (by exact ce) hown.drew).mono ?_; rintro e w1 ⟨⟨t, rfl, ht⟩, hb'⟩; have cs1 : w1.cell? ⟨w.heap.size, 0, none⟩ = some (.string s) := (hb'.cell (by simp)).trans cs)
        all_goals (go_wp2; go_ret2; exact ⟨⟨_, _, rfl, by rw [HQ.out, ht, extract_drop]⟩, hbel.trans ((Below.refl _ wr).drew.trans (hb'.mono (by omega)))⟩)
      have t1 : ((s[k].toNat : Int) == 34) = false := byte_ne 34 (by omega) c1
      by_cases c2 : s[k] = 92
      · have t2 : ((s[k].toNat : Int) == 92) = true := byte_is 92 (by omega) c2
        have HC := hcode.esc (by rw [len_at]; exact hlt) c2
        have hfk' : (f : Int) ≤ (k : Int) := by omega
        have hks' : (k : Int) ≤ (s.size : Int) := by omega
        have hsz : (s.extract f k).size = k - f := by
          have := congrArg List.length (Lib.extract_data s f k)
          rw [len_at] at this; rw [this]; simp; omega
        have HN : Hid (n + (s.extract f k).size ≤ 1099511627776) := by show _ ≤ _; rw [hsz]; omega
        have HE := hide' (extract_part s f k)
        have HZ := hide' hsz
        clear hsz c1 c2 hcode hf
        go_wp2
        go_region_law (refine step_app_str rfl _ _ rfl (w.heap.size + 3) ao n cap acc (s.extract f k) rfl rfl hown.drew HN.out hbase ?_; intro ao' cap' w1 hown' hbel'; obtain ⟨cf1, cs1, ce1, ff1, fe1⟩ := Box.below hbox.out ((Below.refl _ wr).drew.trans hbel'))
        all_goals
          go_wp2
          go_roundw
          case rel =>
            rw [show (s.extract f k).size = min k s.size - f by rw [HZ.out]; omega, HE.out] at hown'
            exact ⟨k + 2, by omega, by omega, by go_num, k + 1, _, cap', ao', _, by omega, by omega, by omega, by omega, fun h => by omega, Box.turned (hbox.out.below ((Below.refl _ wr).drew.trans hbel')) (by omega), (hown'.setBelow (show w.heap.size + 1 < w.heap.size + 3 by omega) _).setBelow (show w.heap.size + 1 + 1 < w.heap.size + 3 by omega) _, HC, ((hbel.trans ((Below.refl _ wr).drew.trans (hbel'.mono (by omega)))).setCell (show w.heap.size ≤ w.heap.size + 1 by omega) _).setCell (show w.heap.size ≤ w.heap.size + 1 + 1 by omega) _, by have := hbel'.size; simp at this; simp; omega⟩
          case measure => simp [intOf]; omega
      · have t2 : ((s[k].toNat : Int) == 92) = false := byte_ne 92 (by omega) c2
        have HC := hcode.plain hfk (by rw [len_at]; exact hlt) c1 c2
        clear c1 c2
        go_wp2
        go_roundw
        case rel => exact ⟨k + 1, by omega, by omega, by go_num, f, n, cap, ao, acc, hf1, by omega, hfs, by omega, hf, hbox.out, hown, HC, hbel, hbase⟩
        case measure => simp [intOf]; omega
    · have HQ := hide' (hcode.over (by rw [len_at]; omega))
      rw [len_at] at HQ
      go_wp2_with fail
      refine (closure_any w.heap.size f s.size n cap ao acc s _ hs (by omega) hf1 hfs (Nat.le_refl _) hf hbase cf cs ce hown).mono ?_
      rintro e w1 ⟨⟨t, rfl, ht⟩, hb'⟩
      go_wp2
      go_ret2
      exact ⟨⟨_, _, rfl, by rw [HQ.out, ht]⟩, hbel.trans (hb'.mono (by omega))⟩

theorem same_strings {s : ByteArray} {e1 e2 : Ending} (h1 : Ans2 s e1) (h2 : Ans2 s e2) : ∃ t r : ByteArray, e1 = .returned (.tuple #[.string t, .string r]) ∧ e2 = .returned (.tuple #[.string t, .string r]) := by
  obtain ⟨t1, r1, rfl, q1⟩ := h1
  obtain ⟨t2, r2, rfl, q2⟩ := h2
  rw [q1] at q2
  simp only [Prod.mk.injEq] at q2
  have e1 : t1 = t2 := by cases t1; cases t2; simp only [ByteArray.mk.injEq]; exact Array.toList_inj.1 q2.1
  have e2 : r1 = r2 := by cases r1; cases r2; simp only [ByteArray.mk.injEq]; exact Array.toList_inj.1 q2.2
  subst e1; subst e2
  exact ⟨_, _, rfl, rfl⟩
end Go.Proofs.Ybulkehgi.Bee
