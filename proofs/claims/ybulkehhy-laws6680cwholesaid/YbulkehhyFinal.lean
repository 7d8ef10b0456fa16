import Derived.Test.YbulkehhyProg
import Derived.Test.YbulkehhyPlain
import Derived.WalkSpells
import Derived.WalkLawsBesides
import Derived.Deep.QuietTactic
import Derived.BigQuiet
import Derived.Outline
namespace Go.Proofs.Ybulkehhy.Walks
open Go.RowKit Plain

def Ents (w : World) (b off : Nat) (es : List Ent) : Prop := ∀ i (h : i < es.length),
  w.cell? ⟨b, off + i * 5, none⟩ = some (.int .u8 es[i].sel) ∧ w.cell? ⟨b, off + i * 5 + 1, none⟩ = some (.string es[i].part) ∧ w.cell? ⟨b, off + i * 5 + 2, none⟩ = some (.int .u64 es[i].pr) ∧
  w.cell? ⟨b, off + i * 5 + 3, none⟩ = some (.int .u64 es[i].ac) ∧ w.cell? ⟨b, off + i * 5 + 4, none⟩ = some (.string es[i].val) ∧ 0 ≤ es[i].sel ∧ es[i].sel ≤ 255 ∧ 0 ≤ es[i].pr ∧ 0 ≤ es[i].ac

/-- Is the record at i final? -/
def isFin (es : List Ent) (i : Nat) : Bool := match es[i]? with | some e => evn e && !(es.drop (i + 1)).any (hit e) | none => false
theorem isFin_at {es : List Ent} {i : Nat} (hi : i < es.length) : isFin es i = (evn es[i] && !(es.drop (i + 1)).any (hit es[i])) := by
  unfold isFin; rw [List.getElem?_eq_getElem hi]
theorem isFin_odd {es : List Ent} {i : Nat} (hi : i < es.length) (h : evn es[i] = false) : isFin es i = false := by rw [isFin_at hi, h]; rfl
theorem isFin_hit {es : List Ent} {i k : Nat} (hi : i < es.length) (hk : k < es.length) (hik : i < k) (h : hit es[i] es[k] = true) : isFin es i = false := by
  rw [isFin_at hi]
  have : (es.drop (i + 1)).any (hit es[i]) = true := by
    rw [List.any_eq_true]
    refine ⟨es[k], ?_, h⟩
    rw [List.mem_iff_getElem]
    exact ⟨k - (i + 1), by simp; omega, by simp [show i + 1 + (k - (i + 1)) = k by omega]⟩
  simp [this]
theorem isFin_yes {es : List Ent} {i : Nat} (hi : i < es.length) (h : evn es[i] = true) (hn : ∀ k (hk : k < es.length), i < k → hit es[i] es[k] = false) : isFin es i = true := by
  rw [isFin_at hi, h]
  have : (es.drop (i + 1)).any (hit es[i]) = false := by
    rw [List.any_eq_false]
    intro x hx
    obtain ⟨j, hj, rfl⟩ := List.mem_iff_getElem.1 hx
    simp only [List.length_drop] at hj
    simp only [List.getElem_drop, Bool.not_eq_true]
    exact hn (i + 1 + j) (by omega) (by omega)
  simp [this]
theorem part_eq (a b : ByteArray) : (a.toList == b.toList) = decide (a = b) := by
  rw [ByteArray.toList_eq, ByteArray.toList_eq]
  by_cases h : a = b
  · simp [h]
  · have : ¬ a.data.toList = b.data.toList := fun e => h (by cases a; cases b; simp only [ByteArray.mk.injEq]; exact Array.toList_inj.1 e)
    rw [decide_eq_false h]
    exact beq_eq_false_iff_ne.2 this

set_option maxHeartbeats 1000000 in
theorem final_any (b off cap : Nat) (es : List Ent) (i : Nat) (w : World) (h : Ents w b off es) (hi : i < es.length) (hl : es.length ≤ 4096) :
    Calls Yba.prog 6 #[.slice (some ⟨b, off, none⟩) es.length cap, .int .i64 i] w fun e w' => e = .returned (.bool (isFin es i)) ∧ ∃ n, w' = w.drewN n := by
  obtain ⟨c0, c1, -, -, -, s0, s1, -, -⟩ := h i hi
  cases he : evn es[i]
  · have t0 : (es[i].sel % 2 != 0) = true := by
      unfold evn at he
      simpa using he
    rw [isFin_odd hi he]
    clear he
    go_enter Yba.func6, Yba.ntmps6
    go_wp2
    go_ret
    exact ⟨rfl, 0, rfl⟩
  have t0 : (es[i].sel % 2 != 0) = false := by
    unfold evn at he
    simpa using he
  have HE : Hid (evn es[i] = true) := he
  clear he
  go_enter Yba.func6, Yba.ntmps6
  go_wp2
  go_loopw [5] (fun j wr => ∃ k n : Nat, i < k ∧ k ≤ es.length ∧ j = .int .i64 k ∧ wr = w.drewN n ∧ ∀ q (hq : q < es.length), i < q → q < k → hit es[i] es[q] = false) (fun j _ => es.length - (intOf j).toNat)
  case atStart => exact ⟨i + 1, 0, by omega, by omega, by go_num, rfl, fun q _ h1 h2 => by omega⟩
  case round =>
    obtain ⟨k, n, hik, hkl, rfl, rfl, hno⟩ := hrel
    by_cases hlt : k < es.length
    · obtain ⟨d0, d1, -, -, -, u0, u1, -, -⟩ := h k hlt
      have i1 : (0 : Int) ≤ (k : Int) := by omega
      have i2 : (k : Int) < (es.length : Int) := by omega
      have i3 : (0 : Int) ≤ (i : Int) := by omega
      have i4 : (i : Int) < (es.length : Int) := by omega
      cases ge : evn es[k]
      · have t1 : (es[k].sel % 2 == 0) = false := ge
        have HN : hit es[i] es[k] = false := by simp [hit, ge]
        clear ge
        go_wp2
        go_quiet (fail)
        go_wp2
        go_roundw
        case rel => exact ⟨k + 1, _, by omega, by omega, by go_num, rfl, fun q hq h1 h2 => by
          by_cases e : q = k
          · subst e; exact HN
          · exact hno q hq h1 (by omega)⟩
        case measure => simp [intOf]; omega
      · have t1 : (es[k].sel % 2 == 0) = true := ge
        have tp := part_eq es[k].part es[i].part
        by_cases hp : es[k].part = es[i].part
        · have HN : Hid (isFin es i = false) := isFin_hit hi hlt hik (by simp [hit, ge, hp])
          have t2 : (es[k].part.toList == es[i].part.toList) = true := by rw [tp]; simpa using hp
          clear ge tp hp
          go_wp2
          go_quiet (fail)
          go_wp2
          go_ret
          exact ⟨by rw [HN.out]; rfl, _, World.drewN_drewN ..⟩
        · have HN : hit es[i] es[k] = false := by simp [hit, hp]
          have t2 : (es[k].part.toList == es[i].part.toList) = false := by rw [tp]; simpa using hp
          clear ge tp hp
          go_wp2
          go_quiet (fail)
          go_wp2
          go_roundw
          case rel => exact ⟨k + 1, _, by omega, by omega, by go_num, rfl, fun q hq h1 h2 => by
            by_cases e : q = k
            · subst e; exact HN
            · exact hno q hq h1 (by omega)⟩
          case measure => simp [intOf]; omega
    · have HN : Hid (isFin es i = true) := isFin_yes hi HE.out fun q hq h1 => hno q hq h1 (by omega)
      go_wp2
      go_ret
      exact ⟨by rw [HN.out]; rfl, n, rfl⟩
end Go.Proofs.Ybulkehhy.Walks
