import Derived.Test.YbulkehjoFmtBee
namespace Go.Proofs.YbulkehjoFmt.Bee
open Go.RowKit Go.Extern.Stop Go.Stop Go.Extern

theorem bcell {W w1 : World} (hb : Below W.heap.size W w1) : (∀ b o, b < W.heap.size → w1.cell? ⟨b, o, none⟩ = W.cell? ⟨b, o, none⟩) ∧ (∀ b o, b < W.heap.size → w1.frozen? ⟨b, o, none⟩ = W.frozen? ⟨b, o, none⟩) :=
  ⟨fun b o h => hb.cell (p := ⟨b, o, none⟩) h, fun b o h => hb.frozen (p := ⟨b, o, none⟩) h⟩

set_option maxHeartbeats 2000000 in
set_option maxRecDepth 100000 in
theorem law_any (F : Interp) (x : Int) (raw nm md ls : ByteArray) (p q : Bool) (w : World) (hF : F.answers w.tape) (h0 : 0 ≤ x) (h1 : x ≤ 255) :
    Calls Ybaf.prog 3 #[.int .u8 x, .string raw, .string nm, .string md, .string ls, .bool p, .bool q] w fun e w' => e = .returned (.bool true) ∧ Below w.heap.size w w' := by
  have hsl := fun w a n c n' c' => run_neq_slice_nil_any (P := Ybaf.prog) w 24 _ a n c n' c' Ybaf.underlying24
  go_enter Ybaf.func3, Ybaf.ntmps3
  go_wp2_with fail
  refine (pick_any x raw _ h0 h1).mono ?_
  rintro e w1 ⟨⟨r, rfl⟩, rfl⟩
  cases c0 : r.toList.isEmpty
  · cases c1 : r.toList == [111, 102, 102]
    · cases c2 : r.toList == [111, 98, 115, 101, 114, 118, 101]
      · cases c3 : r.toList == [101, 110, 102, 111, 114, 99, 101]
        · go_wp2_with fail
          refine (check_bad F w.heap.size r _ (by exact hF) (by simp) c0 c1 c2 c3).mono ?_
          rintro e w2 ⟨rfl, hb⟩
          obtain ⟨hc, -⟩ := bcell hb
          have hs : w.heap.size < w2.heap.size := by have := hb.size; simp at this; omega
          have HB : Hid (Below w.heap.size w w2) := ((Below.refl _ w).alloc (Nat.le_refl _) _).trans (hb.mono (by simp))
          simp only [World.size_alloc] at hc
          clear hb
          go_wp2
          go_ret
          exact ⟨rfl, HB.out⟩
        · go_wp2_with fail
          refine (check_mode w.heap.size r _ (by simp) c0 (.inr (.inr c3))).mono ?_
          rintro e w2 ⟨rfl, rfl⟩
          go_wp2
          go_ret
          exact ⟨rfl, (Below.refl _ _).alloc (Nat.le_refl _) _⟩
      · go_wp2_with fail
        refine (check_mode w.heap.size r _ (by simp) c0 (.inr (.inl c2))).mono ?_
        rintro e w2 ⟨rfl, rfl⟩
        go_wp2
        go_ret
        exact ⟨rfl, (Below.refl _ _).alloc (Nat.le_refl _) _⟩
    · go_wp2_with fail
      refine (check_mode w.heap.size r _ (by simp) c0 (.inl c1)).mono ?_
      rintro e w2 ⟨rfl, rfl⟩
      go_wp2
      go_ret
      exact ⟨rfl, (Below.refl _ _).alloc (Nat.le_refl _) _⟩
  · go_wp2_with fail
    refine (check_empty w.heap.size r _ (by simp) (by simp) c0).mono ?_
    rintro e w2 ⟨rfl, rfl⟩
    go_wp2
    go_ret
    exact ⟨rfl, (Below.refl _ _).alloc (Nat.le_refl _) _⟩
end Go.Proofs.YbulkehjoFmt.Bee
