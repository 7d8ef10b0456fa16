import Derived.Test.YbulkehhyLaw
namespace Go.Proofs.Ybulkehhy.Walks
open Go.RowKit Plain SM

set_option maxHeartbeats 400000 in
set_option maxRecDepth 100000 in
theorem law_big (nm id : ByteArray) (ao : Option Addr) (n cap : Nat) (w : World) (hl : 4096 < n) :
    Calls Yba.prog 3 #[.string nm, .string id, .slice ao n cap] w fun e w' => e = .returned (.bool true) ∧ Below w.heap.size w w' := by
  have hl' : (4096 : Int) < (n : Int) := by omega
  go_enter Yba.func3, Yba.ntmps3
  go_wp2
  go_ret
  exact ⟨rfl, Below.refl _ _⟩

set_option maxHeartbeats 1000000 in
set_option maxRecDepth 100000 in
theorem law_zero (nm id : ByteArray) (ao : Option Addr) (cap : Nat) (w : World) (hid' : id.size ≤ 140737488351232) :
    Calls Yba.prog 3 #[.string nm, .string id, .slice ao 0 cap] w fun e w' => e = .returned (.bool true) ∧ Below w.heap.size w w' := by
  obtain ⟨i0, hi, hz0, hz1, hz2⟩ := info_parts Yba.info37
  obtain ⟨other, hoth, hadd⟩ : ∃ o : ByteArray, Hid (o = id ++ ⟨#[120]⟩) ∧ ∀ w, (Op.stringOp .add id ⟨#[120]⟩).run Yba.prog w = .ok (.string o) w :=
    ⟨_, hid rfl, fun w => run_string_add_sum w id ⟨#[120]⟩ (by show id.size + 1 ≤ _; omega)⟩
  go_enter Yba.func3, Yba.ntmps3
  go_wp2_with (at_make; refine wpList_make_own _ rfl _ _ 23 rfl w.heap.size 37 i0 _ 6 Yba.underlying23 hi hz0 hz1 _ _ _ 0 rfl rfl rfl ?_ ?_ ?_ ?_)
  · omega
  · unfold maxLen; omega
  · omega
  intro wm hown hgr
  have HB : Hid (Below w.heap.size w wm) := (Below.refl _ _).grown hgr (Nat.le_refl _) (fun _ h => by cases h)
  have hw := World.ownsRow.lt hown w.heap.size rfl
  have hsz := HB.out.size
  clear hown hgr
  go_wp2
  refine wp_loop_rounds 1 ?_
  rw [rounds_succ]
  go_wp2_with fail
  refine (new_n nm w.heap.size 0 0 [] wm rfl (fun i hi => by simp at hi) hw.2 (by omega)).mono ?_
  rintro e w2 ⟨rfl, bo, S, hst, hco, hnm, hb2⟩
  have HST := hid hst
  have HC : Hid (cont S id = []) := hco id
  have HB2 : Hid (Below w.heap.size w w2) := HB.out.trans (hb2.mono hsz)
  have hsz2 := hb2.size
  clear hst hco hb2 HB
  go_wp2_with fail
  refine (acc_any wm.heap.size (wm.heap.size + 1 + 1) bo S [] id nm w2 HST.out (by rw [HC.out]; simp) (by simp) hnm).mono ?_
  rintro e w3 ⟨hh, hh0, hhi, bv, V, rfl, hV, hVp, hb3, hbv⟩
  have hh1 : hh = 0 := by
    rcases hhi.2 with h | ⟨x, hx, _⟩
    · exact h
    · cases hx
  subst hh1
  have hV0 : V = [] := by simpa using hVp.eq_nil
  subst hV0
  have HV := hid hV
  have HB3 := hid hb3
  have hsz3 := hb3.size
  clear hhi hV hVp hb3 hh0
  have HBW : Hid (Below w.heap.size w (w3.alloc (.cells #[.string id, .string nm, .int .u64 0, .map (some bv)] 42))) := (HB2.out.trans (HB3.out.mono (by omega))).alloc (by omega) _
  have HSW : Hid (State (w3.alloc (.cells #[.string id, .string nm, .int .u64 0, .map (some bv)] 42)) wm.heap.size (wm.heap.size + 1 + 1) bo S) := HST.out.same fun q hq => (HB3.out.alloc hsz3 _).block q hq
  have HVW : Hid (Holds (w3.alloc (.cells #[.string id, .string nm, .int .u64 0, .map (some bv)] 42)) bv []) := HV.out.alloc _
  have hmn := fun w r => run_eql_map_nil (P := Yba.prog) w 40 _ _ r Yba.underlying40
  have hac := HSW.out.cell
  go_wp2
  refine wp_loop_rounds 1 ?_
  rw [rounds_succ]
  go_wp2
  refine wp_loop_rounds 1 ?_
  rw [rounds_succ]
  cases hgs : get S id with
  | none =>
    have hl1 : (Instr.lookup 46 (.map (some bo)) (.string id) false).run Yba.prog (w3.alloc (.cells #[.string id, .string nm, .int .u64 0, .map (some bv)] 42)) = .ok (.map none) (w3.alloc (.cells #[.string id, .string nm, .int .u64 0, .map (some bv)] 42)) := by rw [HSW.out.lookup rfl id, hgs]
    clear hgs
    go_wp2_with (at_len; refine wpList_len rfl _ rfl Yba.underlying40 bv [] rfl HVW.out ?_)
    go_ret
    exact ⟨rfl, HBW.out⟩
  | some q =>
    have hin := HSW.out.ins _ (get_mem hgs)
    have hq : q.2 = [] := by have := HC.out; simpa [cont, hgs] using this
    have HIN : Hid (Holds (w3.alloc (.cells #[.string id, .string nm, .int .u64 0, .map (some bv)] 42)) q.1 []) := by show _; rw [← hq]; exact hin.1
    have hl1 : (Instr.lookup 46 (.map (some bo)) (.string id) false).run Yba.prog (w3.alloc (.cells #[.string id, .string nm, .int .u64 0, .map (some bv)] 42)) = .ok (.map (some q.1)) (w3.alloc (.cells #[.string id, .string nm, .int .u64 0, .map (some bv)] 42)) := by rw [HSW.out.lookup rfl id, hgs]
    clear hgs hin hq
    go_wp2_with (first | (at_len; refine wpList_len rfl (.tmp 179) rfl Yba.underlying40 bv [] rfl HVW.out ?_) | (at_len; refine wpList_len rfl (.tmp 188) rfl Yba.underlying45 q.1 [] rfl HIN.out ?_))
    go_ret
    exact ⟨rfl, HBW.out⟩
end Go.Proofs.Ybulkehhy.Walks
