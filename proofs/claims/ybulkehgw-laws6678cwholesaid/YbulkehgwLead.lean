import Derived.Test.YbulkehgwProg
import Derived.WalkKit
import Derived.WalkLawsBesides
namespace Go.Proofs.Ybulkehgw.Lead
open Go.RowKit

/-! ### The plain law: Go's int is a ring -/
theorem wrap_cong {x y : Int} (h : x % 18446744073709551616 = y % 18446744073709551616) : wrap64 x = wrap64 y := by
  unfold wrap64
  rw [Int.add_emod x, Int.add_emod y, h]
theorem wrap_mod (x : Int) : wrap64 x % 18446744073709551616 = x % 18446744073709551616 := by
  unfold wrap64
  omega
theorem wrap_mul_mod (x n : Int) : (wrap64 x * n) % 18446744073709551616 = (x * n) % 18446744073709551616 := by
  rw [Int.mul_emod, wrap_mod, ← Int.mul_emod]
theorem cost1 (a n : Int) : wrap64 (wrap64 (wrap64 (a * n) - n) + 1028) = wrap64 (wrap64 (wrap64 (a - 1) * n) + 1028) := by
  apply wrap_cong
  have e1 := wrap_mod (wrap64 (a * n) - n)
  have e2 := wrap_mod (a * n)
  have e3 := wrap_mod (wrap64 (a - 1) * n)
  have e4 := wrap_mul_mod (a - 1) n
  have e5 : (a - 1) * n = a * n - n := by rw [Int.sub_mul, Int.one_mul]
  rw [e5] at e4
  generalize wrap64 (wrap64 (a * n) - n) = x1 at *
  generalize wrap64 (wrap64 (a - 1) * n) = x2 at *
  generalize wrap64 (a * n) = x3 at *
  generalize wrap64 (a - 1) * n = x4 at *
  generalize a * n = x5 at *
  omega
theorem cost2 (a n : Int) : wrap64 (wrap64 (wrap64 (wrap64 (a * n) - n) - n) + 262148) = wrap64 (wrap64 (wrap64 (a - 2) * n) + 262148) := by
  apply wrap_cong
  have e0 := wrap_mod (wrap64 (wrap64 (a * n) - n) - n)
  have e1 := wrap_mod (wrap64 (a * n) - n)
  have e2 := wrap_mod (a * n)
  have e3 := wrap_mod (wrap64 (a - 2) * n)
  have e4 := wrap_mul_mod (a - 2) n
  have e5 : (a - 2) * n = a * n - 2 * n := by rw [Int.sub_mul]
  rw [e5] at e4
  generalize wrap64 (wrap64 (wrap64 (a * n) - n) - n) = x0 at *
  generalize wrap64 (wrap64 (a * n) - n) = x1 at *
  generalize wrap64 (wrap64 (a - 2) * n) = x2 at *
  generalize wrap64 (a * n) = x3 at *
  generalize wrap64 (a - 2) * n = x4 at *
  generalize a * n = x5 at *
  omega

/-- The first of the three that is least. -/
def best (c0 c1 c2 : Int) : Int := if c1 < c0 then (if c2 < c1 then 2 else 1) else (if c2 < c0 then 2 else 0)

set_option maxHeartbeats 1000000 in
theorem lead_any (a n c0 c1 c2 : Int) (w : World) (e0 : wrap64 (a * n) = c0) (e1 : wrap64 (wrap64 (wrap64 (a - 1) * n) + 1028) = c1) (e2 : wrap64 (wrap64 (wrap64 (a - 2) * n) + 262148) = c2) :
    Calls Yba.prog 18 #[.int .i64 a, .int .i64 n] w fun e w' => e = .returned (.int .i64 (best c0 c1 c2)) ∧ w' = w := by
  by_cases h1 : c1 < c0
  · by_cases h2 : c2 < c1
    · have hb : best c0 c1 c2 = 2 := by simp [best, h1, h2]
      go_enter Yba.func18, Yba.ntmps18
      go_wp2
      refine wp_loop_rounds 3 ?_
      rw [rounds_succ]
      go_wp2
      rw [rounds_succ]
      go_wp2
      rw [rounds_succ]
      go_wp2
      go_ret
      exact ⟨by rw [hb]; rfl, rfl⟩
    · have hb : best c0 c1 c2 = 1 := by simp [best, h1, h2]
      go_enter Yba.func18, Yba.ntmps18
      go_wp2
      refine wp_loop_rounds 3 ?_
      rw [rounds_succ]
      go_wp2
      rw [rounds_succ]
      go_wp2
      rw [rounds_succ]
      go_wp2
      go_ret
      exact ⟨by rw [hb]; rfl, rfl⟩
  · by_cases h2 : c2 < c0
    · have hb : best c0 c1 c2 = 2 := by simp [best, h1, h2]
      go_enter Yba.func18, Yba.ntmps18
      go_wp2
      refine wp_loop_rounds 3 ?_
      rw [rounds_succ]
      go_wp2
      rw [rounds_succ]
      go_wp2
      rw [rounds_succ]
      go_wp2
      go_ret
      exact ⟨by rw [hb]; rfl, rfl⟩
    · have hb : best c0 c1 c2 = 0 := by simp [best, h1, h2]
      go_enter Yba.func18, Yba.ntmps18
      go_wp2
      refine wp_loop_rounds 3 ?_
      rw [rounds_succ]
      go_wp2
      rw [rounds_succ]
      go_wp2
      rw [rounds_succ]
      go_wp2
      go_ret
      exact ⟨by rw [hb]; rfl, rfl⟩

set_option maxHeartbeats 1000000 in
theorem costs_any (a n c0 c1 c2 : Int) (w : World) (e0 : wrap64 (a * n) = c0) (e1 : wrap64 (wrap64 (c0 - n) + 1028) = c1) (e2 : wrap64 (wrap64 (wrap64 (c0 - n) - n) + 262148) = c2) :
    Calls Yba.prog 17 #[.int .i64 a, .int .i64 n] w fun e w' => e = .returned (.agg #[.int .i64 c0, .int .i64 c1, .int .i64 c2]) ∧ w' = w.alloc (.cells #[.int .i64 c0, .int .i64 c1, .int .i64 c2] 46) := by
  go_enter Yba.func17, Yba.ntmps17
  go_wp2
  exact bodyPost_ret (v := .agg #[.int .i64 c0, .int .i64 c1, .int .i64 c2]) (by simp [results, Yba.results17, go_sem]) rfl ⟨rfl, rfl⟩
end Go.Proofs.Ybulkehgw.Lead
