import Derived.Test.YbulkehjoFmtStops
import Derived.WalkKit
import Derived.WalkSpells
import Derived.WalkLawsBesides
namespace Go.Proofs.YbulkehjoFmt.Bee
open Go.RowKit Go.Extern.Stop Go.Stop Go.Extern
attribute [local go_sem] Ybaf.call7 Ybaf.guard Ybaf.fmt0 Ybaf.fmt0r Ybaf.op9_113w Ybaf.op9_113 Ybaf.ptr43 Ybaf.elem43 Ybaf.isError43

set_option maxHeartbeats 400000 in
theorem check_bad (F : Interp) (b : Nat) (r : ByteArray) (w : World) (hF : F.answers w.tape) (hc : w.cell? ⟨b, 14, none⟩ = some (.string r)) (h0 : r.toList.isEmpty = false)
    (h1 : (r.toList == [111, 102, 102]) = false) (h2 : (r.toList == [111, 98, 115, 101, 114, 118, 101]) = false) (h3 : (r.toList == [101, 110, 102, 111, 114, 99, 101]) = false) :
    Calls Ybaf.prog 5 #[.pointer (some ⟨b, 0, none⟩)] w fun e w' => e = .returned (.iface 43 (.pointer (some ⟨w.heap.size + 1, 0, none⟩))) ∧ Below w.heap.size w w' := by
  have hF' := answers_open hF
  have hb : b < w.heap.size := World.block_lt_of_cell? w _ hc
  go_enter Ybaf.func5, Ybaf.ntmps5
  go_wp2
  go_ret
  exact ⟨rfl, (((Below.refl _ _).alloc (Nat.le_refl _) _).alloc (by simp) _).drew⟩

set_option maxHeartbeats 400000 in
theorem check_empty (b : Nat) (r : ByteArray) (w : World) (hc : w.cell? ⟨b, 14, none⟩ = some (.string r)) (hf : w.frozen? ⟨b, 14, none⟩ = false) (h0 : r.toList.isEmpty = true) :
    Calls Ybaf.prog 5 #[.pointer (some ⟨b, 0, none⟩)] w fun e w' => e = .returned .nilIface ∧ w' = w.setCell ⟨b, 14, none⟩ (.string ⟨#[111, 102, 102]⟩) := by
  go_enter Ybaf.func5, Ybaf.ntmps5
  go_wp2
  go_ret
  exact ⟨rfl, rfl⟩

set_option maxHeartbeats 400000 in
theorem check_mode (b : Nat) (r : ByteArray) (w : World) (hc : w.cell? ⟨b, 14, none⟩ = some (.string r)) (h0 : r.toList.isEmpty = false)
    (h1 : (r.toList == [111, 102, 102]) = true ∨ (r.toList == [111, 98, 115, 101, 114, 118, 101]) = true ∨ (r.toList == [101, 110, 102, 111, 114, 99, 101]) = true) :
    Calls Ybaf.prog 5 #[.pointer (some ⟨b, 0, none⟩)] w fun e w' => e = .returned .nilIface ∧ w' = w := by
  by_cases g1 : (r.toList == [111, 102, 102]) = true
  · clear h1
    go_enter Ybaf.func5, Ybaf.ntmps5
    go_wp2
    go_ret
    exact ⟨rfl, rfl⟩
  have g1' : (r.toList == [111, 102, 102]) = false := by simpa using g1
  by_cases g2 : (r.toList == [111, 98, 115, 101, 114, 118, 101]) = true
  · clear h1 g1
    go_enter Ybaf.func5, Ybaf.ntmps5
    go_wp2
    go_ret
    exact ⟨rfl, rfl⟩
  have g2' : (r.toList == [111, 98, 115, 101, 114, 118, 101]) = false := by simpa using g2
  have g3 : (r.toList == [101, 110, 102, 111, 114, 99, 101]) = true := by
    rcases h1 with h | h | h
    · exact absurd h g1
    · exact absurd h g2
    · exact h
  clear h1 g1 g2
  go_enter Ybaf.func5, Ybaf.ntmps5
  go_wp2
  go_ret
  exact ⟨rfl, rfl⟩

def Text (e : Ending) : Prop := ∃ r : ByteArray, e = .returned (.string r)
set_option maxHeartbeats 400000 in
theorem pick_any (x : Int) (s : ByteArray) (w : World) (h0 : 0 ≤ x) (h1 : x ≤ 255) :
    Calls Ybaf.prog 4 #[.int .u8 x, .string s] w fun e w' => Text e ∧ w = w' := by
  go_enter Ybaf.func4, Ybaf.ntmps4
  go_wp2
  all_goals (go_ret; exact ⟨⟨_, rfl⟩, rfl⟩)

end Go.Proofs.YbulkehjoFmt.Bee
