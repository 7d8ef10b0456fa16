/-
  lowerASCII (f23), spells (f18), zzs6677afold (f21): all three speak of one plain function: the bytes in lower case.
-/
import Derived.Test.YbulkehgiProg
import Derived.WalkKit
import Derived.WalkLawsBesides
import Derived.Deep.QuietTactic
import Derived.BigQuiet
namespace Go.Proofs.Ybulkehgi.Fold
open Go.RowKit

/-- The world but for draws. -/
def Drawn (w w' : World) : Prop := ∃ n, w' = w.drewN n
theorem Drawn.refl (w : World) : Drawn w w := ⟨0, rfl⟩
theorem Drawn.more {w w' : World} (h : Drawn w w') (m : Nat) : Drawn w (w'.drewN m) := by obtain ⟨n, rfl⟩ := h; exact ⟨n + m, World.drewN_drewN ..⟩
theorem Drawn.heap {w w' : World} (h : Drawn w w') : w'.heap = w.heap := by obtain ⟨n, rfl⟩ := h; rfl
theorem Drawn.below {w w' : World} (h : Drawn w w') (B : Nat) : Below B w w' := by obtain ⟨n, rfl⟩ := h; exact below_drewN (Below.refl _ _) _
theorem hid {p : Prop} (h : p) : Hid p := h
def lowI (x : Int) : Int := if 65 ≤ x ∧ x ≤ 90 then x + 32 else x
def low (c : UInt8) : Int := lowI c.toNat
def spellB (a b : ByteArray) : Bool := a.data.toList.map low == b.data.toList.map low

theorem len_at (s : ByteArray) : s.data.toList.length = s.size := by rw [Array.length_toList]; rfl
theorem spellB_iff (a b : ByteArray) : spellB a b = true ↔ a.size = b.size ∧ ∀ i (h1 : i < a.size) (h2 : i < b.size), low a[i] = low b[i] := by
  unfold spellB
  rw [beq_iff_eq]
  constructor
  · intro h
    have hl := congrArg List.length h
    simp only [List.length_map, len_at] at hl
    refine ⟨hl, fun i h1 h2 => ?_⟩
    have := congrArg (fun l => l[i]?) h
    simp only [List.getElem?_map] at this
    rw [List.getElem?_eq_getElem (by rw [len_at]; exact h1), List.getElem?_eq_getElem (by rw [len_at]; exact h2)] at this
    exact Option.some.inj this
  · rintro ⟨hl, hi⟩
    apply List.ext_getElem?
    intro i
    simp only [List.getElem?_map]
    by_cases h1 : i < a.size
    · have h2 : i < b.size := by omega
      rw [List.getElem?_eq_getElem (by rw [len_at]; exact h1), List.getElem?_eq_getElem (by rw [len_at]; exact h2)]
      exact congrArg some (hi i h1 h2)
    · rw [List.getElem?_eq_none (by rw [len_at]; omega), List.getElem?_eq_none (by rw [len_at]; omega)]
theorem spell_len {a b : ByteArray} (h : ¬ a.size = b.size) : spellB a b = false := by
  rw [Bool.eq_false_iff]; intro e; exact h ((spellB_iff a b).1 e).1
theorem spell_at {a b : ByteArray} {i : Nat} (h1 : i < a.size) (h2 : i < b.size) (h : ¬ low a[i] = low b[i]) : spellB a b = false := by
  rw [Bool.eq_false_iff]; intro e; exact h (((spellB_iff a b).1 e).2 i h1 h2)

set_option maxHeartbeats 400000 in
theorem low_any (x : Int) (w : World) (h0 : 0 ≤ x) (h1 : x ≤ 255) : Calls Yba.prog 23 #[.int .u8 x] w fun e w' => e = .returned (.int .u8 (lowI x)) ∧ w' = w := by
  by_cases h : 65 ≤ x ∧ x ≤ 90
  · obtain ⟨ha, hb⟩ := h
    have e : lowI x = x + 32 := by unfold lowI; rw [if_pos ⟨ha, hb⟩]
    rw [e]
    clear e
    go_enter Yba.func23, Yba.ntmps23
    go_wp2
    go_ret
    exact ⟨by show Ending.returned (.int .u8 (x + 97 - 65)) = _; rw [show x + 97 - 65 = x + 32 by omega], rfl⟩
  · have e : lowI x = x := by unfold lowI; rw [if_neg h]
    rw [e]
    clear e
    by_cases ha : 65 ≤ x
    · have hb : 90 < x := by omega
      go_enter Yba.func23, Yba.ntmps23
      go_wp2
      go_ret
      exact ⟨rfl, rfl⟩
    · go_enter Yba.func23, Yba.ntmps23
      go_wp2
      go_ret
      exact ⟨rfl, rfl⟩

theorem byte_bd (c : UInt8) : (0 : Int) ≤ (c.toNat : Int) ∧ (c.toNat : Int) ≤ 255 := by have := c.toNat_lt; omega

theorem low_byte (c : UInt8) (w : World) : Calls Yba.prog 23 #[.int .u8 (c.toNat : Int)] w fun e w' => e = .returned (.int .u8 (lowI c.toNat)) ∧ w' = w := low_any _ w (byte_bd c).1 (byte_bd c).2

set_option maxHeartbeats 1000000 in
theorem spells_any (a b : ByteArray) (w : World) (ha : a.size ≤ 9223372036854775807) :
    Calls Yba.prog 18 #[.string a, .string b] w fun e w' => e = .returned (.bool (spellB a b)) ∧ Drawn w w' := by
  by_cases hl : a.size = b.size
  · have t0 : ((a.size : Int) != (b.size : Int)) = false := by simp [hl]
    have HL := hid hl
    go_enter Yba.func18, Yba.ntmps18
    go_wp2
    go_loopw [5] (fun i wr => ∃ k : Nat, k ≤ a.size ∧ i = .int .i64 k ∧ Drawn w wr ∧ ∀ j (h1 : j < a.size) (h2 : j < b.size), j < k → low a[j] = low b[j]) (fun i _ => a.size - (intOf i).toNat)
    case atStart => exact ⟨0, Nat.zero_le _, rfl, Drawn.refl _, fun j _ _ h => absurd h (by omega)⟩
    case round =>
      obtain ⟨k, hk, rfl, hdr, hall⟩ := hrel
      have HALL := hid hall
      clear hall
      by_cases hlt : k < a.size
      · have hlb : k < b.size := by omega
        have i1 : (0 : Int) ≤ (k : Int) := by omega
        have i2 : (k : Int) < (a.size : Int) := by omega
        have i3 : (k : Int) < (b.size : Int) := by omega
        have b1 := byte_bd a[k]
        have b2 := byte_bd b[k]
        by_cases he : low a[k] = low b[k]
        · have t1 : (lowI (a[k].toNat : Int) != lowI (b[k].toNat : Int)) = false := by
            unfold low at he
            simp [he]
          have HE := hid he
          clear he hl
          go_wp2
          go_quiet ((go_at_call 23; exact Calls.quiet_of_same (low_byte _ _)))
          go_wp2
          go_roundw
          case rel => exact ⟨k + 1, by omega, by go_num, hdr.more _, fun j h1 h2 hj => by
            by_cases e : j = k
            · subst e; exact HE.out
            · exact HALL.out j h1 h2 (by omega)⟩
          case measure => simp [intOf]; omega
        · have t1 : (lowI (a[k].toNat : Int) != lowI (b[k].toNat : Int)) = true := by
            unfold low at he
            simp [he]
          have HE := hid (spell_at hlt hlb he)
          clear he hl
          go_wp2
          go_quiet ((go_at_call 23; exact Calls.quiet_of_same (low_byte _ _)))
          go_wp2
          go_ret
          exact ⟨by rw [HE.out]; rfl, hdr.more _⟩
      · have HE := hid ((spellB_iff a b).2 ⟨HL.out, fun j h1 h2 => HALL.out j h1 h2 (by omega)⟩)
        clear hl
        go_wp2
        go_ret
        exact ⟨by rw [HE.out]; rfl, hdr⟩
  · have t0 : ((a.size : Int) != (b.size : Int)) = true := by simp; omega
    rw [spell_len hl]
    go_enter Yba.func18, Yba.ntmps18
    go_wp2
    go_ret
    exact ⟨rfl, Drawn.refl _⟩

theorem or_case : ∀ x : Fin 256, decide (97 ≤ x.val ||| 32 ∧ x.val ||| 32 ≤ 122) = decide ((65 ≤ x.val ∧ x.val ≤ 90) ∨ (97 ≤ x.val ∧ x.val ≤ 122)) := by decide +kernel
theorem xor_case : ∀ x : Fin 256, x.val ^^^ 32 = if (65 ≤ x.val ∧ x.val ≤ 90) then x.val + 32 else if (97 ≤ x.val ∧ x.val ≤ 122) then x.val - 32 else x.val ^^^ 32 := by decide +kernel
theorem bits_or (c : UInt8) : bits .or .u8 (c.toNat : Int) 32 = ((c.toNat ||| 32 : Nat) : Int) :=
  (bits_nat .u8 8 (by decide) wraps_u8 c.toNat 32 c.toNat_lt (by decide)).2
theorem bits_xor (c d : UInt8) : bits .xor .u8 (c.toNat : Int) (d.toNat : Int) = ((c.toNat ^^^ d.toNat : Nat) : Int) := by
  have h1 : c.toNat % 2 ^ 8 = c.toNat := Nat.mod_eq_of_lt c.toNat_lt
  have h2 : d.toNat % 2 ^ 8 = d.toNat := Nat.mod_eq_of_lt d.toNat_lt
  have h3 : c.toNat ^^^ d.toNat < 2 ^ 8 := Nat.xor_lt_two_pow c.toNat_lt d.toNat_lt
  show IntKind.u8.wrap (((BitVec.ofInt 8 (c.toNat : Int)) ^^^ (BitVec.ofInt 8 (d.toNat : Int))).toNat : Int) = _
  rw [BitVec.ofInt_natCast, BitVec.ofInt_natCast, BitVec.toNat_xor, BitVec.toNat_ofNat, BitVec.toNat_ofNat, h1, h2]
  exact wraps_u8 _ (Int.natCast_nonneg _) (by exact_mod_cast h3)
theorem same_yes {c d : UInt8} (h1 : bits .xor .u8 (c.toNat : Int) (d.toNat : Int) = 32) (h2 : 97 ≤ bits .or .u8 (c.toNat : Int) 32) (h3 : bits .or .u8 (c.toNat : Int) 32 ≤ 122) : low c = low d := by
  rw [bits_xor] at h1
  rw [bits_or] at h2 h3
  have e : d.toNat = c.toNat ^^^ 32 := by
    have h : c.toNat ^^^ d.toNat = 32 := by omega
    rw [← h, ← Nat.xor_assoc, Nat.xor_self, Nat.zero_xor]
  have hc := or_case ⟨c.toNat, c.toNat_lt⟩
  have hx := xor_case ⟨c.toNat, c.toNat_lt⟩
  simp only at hc hx
  have hcs : (65 ≤ c.toNat ∧ c.toNat ≤ 90) ∨ (97 ≤ c.toNat ∧ c.toNat ≤ 122) := by
    have : decide (97 ≤ c.toNat ||| 32 ∧ c.toNat ||| 32 ≤ 122) = true := by simp; omega
    rw [this] at hc
    exact of_decide_eq_true hc.symm
  rw [← e] at hx
  unfold low lowI
  rcases hcs with h | h
  · rw [if_pos h] at hx
    rw [if_pos (by omega), if_neg (by omega)]; omega
  · rw [if_neg (by omega), if_pos h] at hx
    rw [if_neg (by omega), if_pos (by omega)]; omega
theorem same_letters {c d : UInt8} (h : low c = low d) (hne : ¬ c.toNat = d.toNat) : (97 ≤ c.toNat ||| 32 ∧ c.toNat ||| 32 ≤ 122) ∧ c.toNat ^^^ d.toNat = 32 := by
  unfold low lowI at h
  have hc := or_case ⟨c.toNat, c.toNat_lt⟩
  have hx := xor_case ⟨c.toNat, c.toNat_lt⟩
  simp only at hc hx
  have hcs : ((65 ≤ c.toNat ∧ c.toNat ≤ 90) ∧ d.toNat = c.toNat + 32) ∨ ((97 ≤ c.toNat ∧ c.toNat ≤ 122) ∧ d.toNat = c.toNat - 32) := by
    split at h <;> split at h <;> omega
  have hd : d.toNat = c.toNat ^^^ 32 := by
    rcases hcs with ⟨h1, h2⟩ | ⟨h1, h2⟩
    · rw [hx, if_pos h1, h2]
    · rw [hx, if_neg (by omega), if_pos h1, h2]
  refine ⟨?_, by rw [hd, ← Nat.xor_assoc, Nat.xor_self, Nat.zero_xor]⟩
  have : decide ((65 ≤ c.toNat ∧ c.toNat ≤ 90) ∨ (97 ≤ c.toNat ∧ c.toNat ≤ 122)) = true := by simp; omega
  rw [this] at hc
  exact of_decide_eq_true hc
theorem same_no1 {c d : UInt8} (h0 : ((c.toNat : Int) == (d.toNat : Int)) = false) (h1 : ¬ bits .xor .u8 (c.toNat : Int) (d.toNat : Int) = 32) : ¬ low c = low d := fun h => by
  have hne : ¬ c.toNat = d.toNat := by intro e; simp [e] at h0
  have := (same_letters h hne).2
  rw [bits_xor] at h1
  omega
theorem same_no2 {c d : UInt8} (h0 : ((c.toNat : Int) == (d.toNat : Int)) = false) (h1 : bits .or .u8 (c.toNat : Int) 32 < 97 ∨ 122 < bits .or .u8 (c.toNat : Int) 32) : ¬ low c = low d := fun h => by
  have hne : ¬ c.toNat = d.toNat := by intro e; simp [e] at h0
  have := (same_letters h hne).1
  rw [bits_or] at h1
  omega
theorem same_eq {c d : UInt8} (h : ((c.toNat : Int) == (d.toNat : Int)) = true) : low c = low d := by
  unfold low
  rw [beq_iff_eq] at h
  rw [h]

set_option maxHeartbeats 1000000 in
theorem fold_any (a b : ByteArray) (w : World) (ha : a.size ≤ 9223372036854775807) :
    Calls Yba.prog 21 #[.string a, .string b] w fun e w' => e = .returned (.bool (spellB a b)) ∧ Drawn w w' := by
  by_cases hl : a.size = b.size
  · have t0 : ((a.size : Int) != (b.size : Int)) = false := by simp [hl]
    have HL := hid hl
    go_enter Yba.func21, Yba.ntmps21
    go_wp2
    go_loopw [5] (fun i wr => ∃ k : Nat, k ≤ a.size ∧ i = .int .i64 k ∧ Drawn w wr ∧ ∀ j (h1 : j < a.size) (h2 : j < b.size), j < k → low a[j] = low b[j]) (fun i _ => a.size - (intOf i).toNat)
    case atStart => exact ⟨0, Nat.zero_le _, rfl, Drawn.refl _, fun j _ _ h => absurd h (by omega)⟩
    case round =>
      obtain ⟨k, hk, rfl, hdr, hall⟩ := hrel
      have HALL := hid hall
      clear hall
      by_cases hlt : k < a.size
      · have hlb : k < b.size := by omega
        have i1 : (0 : Int) ≤ (k : Int) := by omega
        have i2 : (k : Int) < (a.size : Int) := by omega
        have i3 : (k : Int) < (b.size : Int) := by omega
        clear hl
        go_wp2
        go_quiet (fail)
        go_wp2
        · have he := same_eq (c := a[k]) (d := b[k]) (by assumption)
          go_roundw
          case rel => exact ⟨k + 1, by omega, by go_num, hdr.more _, fun j h1 h2 hj => by
            by_cases e : j = k
            · subst e; exact he
            · exact HALL.out j h1 h2 (by omega)⟩
          case measure => simp [intOf]; omega
        · have he := same_yes (c := a[k]) (d := b[k]) (by assumption) (by assumption) (by assumption)
          go_roundw
          case rel => exact ⟨k + 1, by omega, by go_num, hdr.more _, fun j h1 h2 hj => by
            by_cases e : j = k
            · subst e; exact he
            · exact HALL.out j h1 h2 (by omega)⟩
          case measure => simp [intOf]; omega
        · have he := spell_at hlt hlb (same_no2 (c := a[k]) (d := b[k]) (by assumption) (.inr (by assumption)))
          go_ret
          exact ⟨by rw [he]; rfl, hdr.more _⟩
        · have he := spell_at hlt hlb (same_no2 (c := a[k]) (d := b[k]) (by assumption) (.inl (by assumption)))
          go_ret
          exact ⟨by rw [he]; rfl, hdr.more _⟩
        · have he := spell_at hlt hlb (same_no1 (c := a[k]) (d := b[k]) (by assumption) (by assumption))
          go_ret
          exact ⟨by rw [he]; rfl, hdr.more _⟩
      · have HE := hid ((spellB_iff a b).2 ⟨HL.out, fun j h1 h2 => HALL.out j h1 h2 (by omega)⟩)
        clear hl
        go_wp2
        go_ret
        exact ⟨by rw [HE.out]; rfl, hdr⟩
  · have t0 : ((a.size : Int) != (b.size : Int)) = true := by simp; omega
    rw [spell_len hl]
    go_enter Yba.func21, Yba.ntmps21
    go_wp2
    go_ret
    exact ⟨rfl, Drawn.refl _⟩
end Go.Proofs.Ybulkehgi.Fold
