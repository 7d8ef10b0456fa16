/-
  The library's small functions: bytes.Compare (f7), bytes.Equal (f13), slices.Equal at uint32 (f14).
-/
import Derived.Test.YbulkehgwGrp
import Derived.Laws.BytesArg
import Derived.Lib.Bytealg
import Derived.Lib.BytesEntry
namespace Go.Proofs.Ybulkehgw.Lb
open Go.RowKit Pl Mem Bld AddZ AddL Grp

def by8 (bs : Bs) : List UInt8 := bs.map fun n => UInt8.ofNat n
/-- The bytes as a string. -/
def str8 (bs : Bs) : ByteArray := ⟨(by8 bs).toArray⟩
theorem strOf (bs : Bs) : strOfNums (bs.map fun n : Nat => (n : Int)) = str8 bs := by
  unfold strOfNums str8 by8
  rw [List.map_map]
  rfl
theorem conv_any (b off cap : Nat) (bs : Bs) (w : World) (h : Rd w b off bs) : (convert 22 9 (.slice (some ⟨b, off, none⟩) bs.length cap)).run Yba.prog w = .ok (.string (str8 bs)) w := by
  rw [← strOf bs]
  refine run_convert_bytes_arg w 22 5 Yba.underlying22 Yba.underlying5 b off bs.length cap _ (by simp) (fun i hi => ?_) 9 Yba.underlying9
  rw [h i hi]
  simp [u8, hi]

theorem equal_any (b1 c1 b2 c2 : Nat) (bs : Bs) (w : World) (h1 : Rd w b1 0 bs) (h2 : Rd w b2 0 bs) :
    Calls Yba.prog 13 #[.slice (some ⟨b1, 0, none⟩) bs.length c1, .slice (some ⟨b2, 0, none⟩) bs.length c2] w fun e w' => e = .returned (.bool true) ∧ w' = w := by
  have e1 := conv_any b1 0 c1 bs w h1
  have e2 := conv_any b2 0 c2 bs w h2
  clear h1 h2
  go_enter Yba.func13, Yba.ntmps13
  go_wp2
  go_ret
  exact ⟨rfl, rfl⟩

theorem load_any (b c : Nat) (bs : Bs) (w : World) (h : Rd w b 0 bs) : (Extern.Bytes.bytesOf (.slice (some ⟨b, 0, none⟩) bs.length c)).run Yba.prog w = .ok (str8 bs) w := by
  have := Lib.run_loadBytesX (P := Yba.prog) w (bs.map fun n : Nat => (n : Int)) ⟨b, 0, none⟩ .empty (fun j x hx => by
    rw [List.getElem?_map] at hx
    cases hb : bs[j]? with
    | none => rw [hb] at hx; cases hx
    | some c =>
      rw [hb] at hx
      obtain ⟨hlt, e⟩ := List.getElem?_eq_some_iff.1 hb
      have := h j hlt
      rw [show (⟨b, 0, none⟩ : Addr).add j = ⟨b, 0 + j, none⟩ from by simp [Addr.add]; exact fun h => h.symm, this, e]
      simp only [Option.map_some, Option.some.injEq] at hx
      rw [← hx]
      rfl)
  rw [List.length_map] at this
  unfold Extern.Bytes.bytesOf
  rw [this]
  unfold str8 by8
  congr 1
  apply ByteArray.ext
  simp [Lib.bytesOf]
theorem run_cmp (b1 c1 b2 c2 : Nat) (x y : Bs) (w : World) (h1 : Rd w b1 0 x) (h2 : Rd w b2 0 y) : (Extern.BytealgCompare.compare #[.slice (some ⟨b1, 0, none⟩) x.length c1, .slice (some ⟨b2, 0, none⟩) y.length c2]).run Yba.prog w = .ok (.int .i64 (Lib.compareBytes (by8 x) (by8 y))) w := by
  change Sem.run Yba.prog (do pure (goInt (Extern.BytealgCompare.cmp (← Extern.Bytes.bytesOf (.slice (some ⟨b1, 0, none⟩) x.length c1)) (← Extern.Bytes.bytesOf (.slice (some ⟨b2, 0, none⟩) y.length c2))))) w = _
  simp only [Sem.run_bind, load_any b1 c1 x w h1, load_any b2 c2 y w h2, Sem.run_pure, Result.andThen]
  rw [Lib.cmp_eq]
  rfl
theorem cmp_any (b1 c1 b2 c2 : Nat) (x y : Bs) (w : World) (h1 : Rd w b1 0 x) (h2 : Rd w b2 0 y) :
    Calls Yba.prog 7 #[.slice (some ⟨b1, 0, none⟩) x.length c1, .slice (some ⟨b2, 0, none⟩) y.length c2] w fun e w' => e = .returned (.int .i64 (Lib.compareBytes (by8 x) (by8 y))) ∧ w' = w := by
  go_enter Yba.func7, Yba.ntmps7
  go_wp2_with fail
  rw [run_callFunc_extern Yba.func21 (by kernel_rfl) (by kernel_rfl) (by kernel_rfl) (e := Extern.BytealgCompare.compare) (by kernel_rfl), run_cmp b1 c1 b2 c2 x y w h1 h2]
  simp only [Result.andThen]
  rw [Oper.upon_value]
  go_wp2
  go_ret
  exact ⟨rfl, rfl⟩

/-- slices.Equal of two rows of the same numbers. -/
theorem equal32 (s1 c1 s2 c2 N : Nat) (f : Nat → Nat) (w : World) (h1 : ∀ j, j < N → w.cell? ⟨s1, j, none⟩ = some (.int .u32 (f j : Int))) (h2 : ∀ j, j < N → w.cell? ⟨s2, j, none⟩ = some (.int .u32 (f j : Int))) (hN : N ≤ 65537) :
    Calls Yba.prog 14 #[.slice (some ⟨s1, 0, none⟩) N c1, .slice (some ⟨s2, 0, none⟩) N c2] w fun e w' => e = .returned (.bool true) ∧ Drawn w w' := by
  have H1 := hid h1
  have H2 := hid h2
  clear h1 h2
  go_enter Yba.func14, Yba.ntmps14
  go_wp2
  go_loopw [5, 13] (fun _ iv wr => ∃ i : Nat, i ≤ N ∧ iv = .int .i64 (i : Int) ∧ Drawn w wr) (fun _ iv _ => N - (intOf iv).toNat)
  case atStart => exact ⟨0, Nat.zero_le _, rfl, Drawn.refl _⟩
  case round =>
    obtain ⟨i, hi, rfl, hd⟩ := hrel
    by_cases hlt : i < N
    · have k1 := (Drawn.cell hd _).trans (H1.out i hlt)
      have k2 := (Drawn.cell hd _).trans (H2.out i hlt)
      obtain ⟨v, hv⟩ : ∃ v, f i = v := ⟨_, rfl⟩
      rw [hv] at k1 k2
      have HD := hid hd
      have hiN : (i : Int) < (N : Int) := by omega
      clear hd hv
      go_wp2
      go_quiet (fail)
      go_wp2
      go_roundw
      case rel => exact ⟨i + 1, by omega, by go_num, HD.out.more _⟩
      case measure => simp [intOf]; omega
    · obtain rfl : i = N := by omega
      have HD := hid hd
      clear hd
      go_wp2
      go_ret
      exact ⟨rfl, HD.out⟩
theorem equal32_nil (w : World) : Calls Yba.prog 14 #[.slice none 0 0, .slice none 0 0] w fun e w' => e = .returned (.bool true) ∧ w' = w := by
  go_enter Yba.func14, Yba.ntmps14
  go_wp2
  go_loopw [5, 13] (fun _ iv wr => iv = .int .i64 0 ∧ w = wr) (fun _ _ _ => 0)
  case atStart => exact ⟨rfl, rfl⟩
  case round =>
    obtain ⟨rfl, rfl⟩ := hrel
    go_wp2
    go_ret
    exact ⟨rfl, rfl⟩
end Go.Proofs.Ybulkehgw.Lb
