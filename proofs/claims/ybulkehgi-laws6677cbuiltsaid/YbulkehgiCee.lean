import Derived.Test.YbulkehgiProg
import Derived.WalkKit
import Derived.WalkLawsBesides
namespace Go.Proofs.Ybulkehgi.Cee
open Go.RowKit

/-! ### The plain law: what a good value is -/
def okc (c : UInt8) : Prop := 32 ≤ (c.toNat : Int) ∧ (c.toNat : Int) ≤ 126 ∧ ¬ (c.toNat : Int) = 44 ∧ ¬ (c.toNat : Int) = 61
def Upto (s : ByteArray) (k : Nat) : Prop := ∀ j (h : j < s.size), j < k → okc s[j]
def Good (s : ByteArray) : Prop := 1 ≤ s.size ∧ s.size ≤ 256 ∧ (∀ h : s.size - 1 < s.size, ¬ (s[s.size - 1].toNat : Int) = 32) ∧ Upto s s.size
/-- The call's ending says whether s is good. -/
def Ans (s : ByteArray) (e : Ending) : Prop := ∃ b, e = .returned (.bool b) ∧ (b = true ↔ Good s)

theorem ans_no {s : ByteArray} (h : ¬ Good s) : Ans s (.returned (.bool false)) := ⟨false, rfl, by simp [h]⟩
theorem ans_yes {s : ByteArray} (h : Good s) : Ans s (.returned (.bool true)) := ⟨true, rfl, by simp [h]⟩
theorem isEmpty_size (s : ByteArray) : s.toList.isEmpty = true ↔ s.size = 0 := by
  rw [ByteArray.toList_eq]; obtain ⟨⟨l⟩⟩ := s; cases l <;> simp [ByteArray.size]
theorem ne_size (s : ByteArray) (h : 1 ≤ s.size) : s.toList.isEmpty = false := by
  cases e : s.toList.isEmpty
  · rfl
  · rw [isEmpty_size] at e; omega
theorem upto_succ {s : ByteArray} {k : Nat} (h : k < s.size) (hu : Upto s k) (hc : okc s[k]) : Upto s (k + 1) := by
  intro j hj hjk
  by_cases e : j = k
  · subst e; exact hc
  · exact hu j hj (by omega)
theorem not_good_at {s : ByteArray} {k : Nat} (h : k < s.size) (hc : ¬ okc s[k]) : ¬ Good s := fun hg => hc (hg.2.2.2 k h h)

theorem nok_lo {c : UInt8} (h : (c.toNat : Int) < 32) : ¬ okc c := fun hc => by have := hc.1; omega
theorem nok_hi {c : UInt8} (h : 126 < (c.toNat : Int)) : ¬ okc c := fun hc => by have := hc.2.1; omega
theorem nok_44 {c : UInt8} (h : (c.toNat : Int) = 44) : ¬ okc c := fun hc => hc.2.2.1 h
theorem nok_61 {c : UInt8} (h : (c.toNat : Int) = 61) : ¬ okc c := fun hc => hc.2.2.2 h

set_option maxHeartbeats 400000 in
theorem valid_any (s : ByteArray) (w : World) (hs : s.size ≤ maxLen) :
    Calls Yba.prog 15 #[.string s] w fun e w' => Ans s e ∧ w' = w := by
  unfold maxLen at hs
  by_cases h0 : s.size = 0
  · have he : s.toList.isEmpty = true := (isEmpty_size s).2 h0
    have HG : ¬ Good s := fun hg => by have := hg.1; omega
    clear h0
    go_enter Yba.func15, Yba.ntmps15
    go_wp2
    go_ret
    exact ⟨ans_no HG, rfl⟩
  have he : s.toList.isEmpty = false := ne_size s (by omega)
  by_cases h1 : 256 < s.size
  · have HG : ¬ Good s := fun hg => by have := hg.2.1; omega
    have h1' : (256 : Int) < (s.size : Int) := by omega
    go_enter Yba.func15, Yba.ntmps15
    go_wp2
    go_ret
    exact ⟨ans_no HG, rfl⟩
  have h1' : (s.size : Int) ≤ 256 := by omega
  have hb : s.size - 1 < s.size := by omega
  by_cases h2 : (s[s.size - 1].toNat : Int) = 32
  · have HG : ¬ Good s := fun hg => hg.2.2.1 hb h2
    have h2' : ((s[s.size - 1].toNat : Int) == 32) = true := by simpa using h2
    clear h2
    go_enter Yba.func15, Yba.ntmps15
    go_wp2
    go_ret
    exact ⟨ans_no HG, rfl⟩
  have h2' : ((s[s.size - 1].toNat : Int) == 32) = false := by simpa using h2
  have HL : Hid (¬ (s[s.size - 1].toNat : Int) = 32) := h2
  clear h2
  go_enter Yba.func15, Yba.ntmps15
  go_wp2
  go_loop [3] (fun i => ∃ k : Nat, k ≤ s.size ∧ i = .int .i64 k ∧ Upto s k) (fun i => s.size - (intOf i).toNat)
  case atStart => exact ⟨0, Nat.zero_le _, rfl, fun j _ h => absurd h (by omega)⟩
  case round =>
    obtain ⟨k, hk, rfl, hu⟩ := hrel
    by_cases hlt : k < s.size
    · by_cases c0 : (s[k].toNat : Int) < 32
      · have HG := not_good_at hlt (nok_lo c0)
        go_wp2
        go_ret
        exact ⟨ans_no HG, rfl⟩
      by_cases c1 : 126 < (s[k].toNat : Int)
      · have HG := not_good_at hlt (nok_hi c1)
        go_wp2
        go_ret
        exact ⟨ans_no HG, rfl⟩
      by_cases c2 : (s[k].toNat : Int) = 44
      · have HG := not_good_at hlt (nok_44 c2)
        have c2' : ((s[k].toNat : Int) == 44) = true := by simpa using c2
        clear c2
        go_wp2
        go_ret
        exact ⟨ans_no HG, rfl⟩
      have c2' : ((s[k].toNat : Int) == 44) = false := by simpa using c2
      by_cases c3 : (s[k].toNat : Int) = 61
      · have HG := not_good_at hlt (nok_61 c3)
        have c3' : ((s[k].toNat : Int) == 61) = true := by simpa using c3
        clear c3
        go_wp2
        go_ret
        exact ⟨ans_no HG, rfl⟩
      have c3' : ((s[k].toNat : Int) == 61) = false := by simpa using c3
      have hu' := upto_succ hlt hu ⟨by omega, by omega, c2, c3⟩
      clear c2 c3
      go_wp2
      go_round
      case rel => exact ⟨k + 1, by omega, by go_num, hu'⟩
      case measure => simp [intOf]; omega
    · go_wp2
      go_ret
      exact ⟨ans_yes ⟨by omega, by omega, fun _ => HL.out, fun j hj _ => hu j hj (by omega)⟩, rfl⟩

set_option maxHeartbeats 400000 in
set_option maxRecDepth 100000 in
theorem model_any (s : ByteArray) (w : World) (hs : s.size ≤ maxLen) :
    Calls Yba.prog 16 #[.string s] w fun e w' => Ans s e ∧ w' = w := by
  unfold maxLen at hs
  by_cases h0 : s.size = 0
  · have h0' : (s.size : Int) < 1 := by omega
    have HG : ¬ Good s := fun hg => by have := hg.1; omega
    go_enter Yba.func16, Yba.ntmps16
    go_wp2
    go_ret
    exact ⟨ans_no HG, rfl⟩
  by_cases h1 : 256 < s.size
  · have HG : ¬ Good s := fun hg => by have := hg.2.1; omega
    have h1' : (256 : Int) < (s.size : Int) := by omega
    go_enter Yba.func16, Yba.ntmps16
    go_wp2
    go_ret
    exact ⟨ans_no HG, rfl⟩
  have h1' : (s.size : Int) ≤ 256 := by omega
  have hb : s.size - 1 < s.size := by omega
  by_cases h2 : (s[s.size - 1].toNat : Int) = 32
  · have HG : ¬ Good s := fun hg => hg.2.2.1 hb h2
    have h2' : ((s[s.size - 1].toNat : Int) == 32) = true := by simpa using h2
    clear h2
    go_enter Yba.func16, Yba.ntmps16
    go_wp2
    go_ret
    exact ⟨ans_no HG, rfl⟩
  have h2' : ((s[s.size - 1].toNat : Int) == 32) = false := by simpa using h2
  have HL : Hid (¬ (s[s.size - 1].toNat : Int) = 32) := h2
  clear h2
  go_enter Yba.func16, Yba.ntmps16
  go_wp2
  go_loop [4] (fun i => ∃ k : Nat, k ≤ s.size ∧ i = .int .i64 k ∧ Upto s k) (fun i => s.size - (intOf i).toNat)
  case atStart => exact ⟨0, Nat.zero_le _, rfl, fun j _ h => absurd h (by omega)⟩
  case round =>
    obtain ⟨k, hk, rfl, hu⟩ := hrel
    by_cases hlt : k < s.size
    · by_cases c0 : (s[k].toNat : Int) < 32
      · have HG := not_good_at hlt (nok_lo c0)
        go_wp2
        go_ret
        exact ⟨ans_no HG, rfl⟩
      by_cases c1 : 126 < (s[k].toNat : Int)
      · have HG := not_good_at hlt (nok_hi c1)
        go_wp2
        go_ret
        exact ⟨ans_no HG, rfl⟩
      by_cases c2 : (s[k].toNat : Int) = 44
      · have HG := not_good_at hlt (nok_44 c2)
        have c2' : ((s[k].toNat : Int) == 44) = true := by simpa using c2
        clear c2
        go_wp2
        go_ret
        exact ⟨ans_no HG, rfl⟩
      have c2' : ((s[k].toNat : Int) == 44) = false := by simpa using c2
      by_cases c3 : (s[k].toNat : Int) = 61
      · have HG := not_good_at hlt (nok_61 c3)
        have c3' : ((s[k].toNat : Int) == 61) = true := by simpa using c3
        clear c3
        go_wp2
        go_ret
        exact ⟨ans_no HG, rfl⟩
      have c3' : ((s[k].toNat : Int) == 61) = false := by simpa using c3
      have hu' := upto_succ hlt hu ⟨by omega, by omega, c2, c3⟩
      clear c2 c3
      go_wp2
      go_round
      case rel => exact ⟨k + 1, by omega, by go_num, hu'⟩
      case measure => simp [intOf]; omega
    · go_wp2
      go_ret
      exact ⟨ans_yes ⟨by omega, by omega, fun _ => HL.out, fun j hj _ => hu j hj (by omega)⟩, rfl⟩
end Go.Proofs.Ybulkehgi.Cee
