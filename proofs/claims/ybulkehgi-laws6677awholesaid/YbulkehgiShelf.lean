/-
  DERIVED: THE SHELF's CONTRACTS AT THIS DUMP, IN PLAIN WORDS (tools/lay-plain.mjs out of 'YbaShelf.lean', which tools/lay-shelf.mjs wrote): THE SAME DECLARATIONS UNDER THE SAME NAMES: 'import', 'namespace', 'open', 'def', 'theorem' AND NOTHING ELSE: no command of the shelf's: FOR A HAND-IN. Each laying: the table of numbers ('.._ren') and one theorem, a field a fact of the dump's own or the kernel's comparison; each contract: ONE APPLICATION.
-/
import Derived.Shelf.Small.Bits
import Derived.Shelf.Strconv.Itoa0
import Derived.Shelf.Sort.Plain
import Derived.Ground.Names2Prog
import Derived.Shelf.Slices.Clone
import Derived.Ground.SlgnProg
import Derived.Shelf.SlicesE.Clone
import Derived.Test.YbulkehgiProg
namespace Go.Proofs
open Go.Shelf
def Yba.lays128_ren : Go.Shelf.Ren := ⟨fun | 128 => 36 | n => n, fun | 51 => 75 | 3 => 3 | 4 => 4 | 46 => 51 | 5 => 5 | 9 => 9 | n => n, fun | n => n⟩
theorem Yba.lays128 : Go.Proofs.Lays.n128 Yba.prog Yba.lays128_ren := {
  mixed := by kernel_rfl
  f128 := Yba.func36.trans (congrArg some (by kernel_rfl))
  t3 := Yba.underlying3
  a3 := Yba.isAgg3
  z3 := Yba.sizeOf3
  v3 := Yba.zeroValue3
  t4 := Yba.underlying4
  a4 := Yba.isAgg4
  z4 := Yba.sizeOf4
  v4 := Yba.zeroValue4
  t5 := Yba.underlying5
  a5 := Yba.isAgg5
  z5 := Yba.sizeOf5
  v5 := Yba.zeroValue5
  t9 := Yba.underlying9
  a9 := Yba.isAgg9
  z9 := Yba.sizeOf9
  v9 := Yba.zeroValue9
  t46 := Yba.underlying51
  a46 := Yba.isAgg51
  z46 := Yba.sizeOf51
  v46 := Yba.zeroValue51
  t51 := Yba.underlying75
  a51 := Yba.isAgg75
  z51 := Yba.sizeOf75
  v51 := Yba.zeroValue75 }
/-- bits.Len32: "Len32 returns the minimum number of bits required to represent x; the result is 0 for x == 0.": IT RETURNS 'Lib.bitLen x'; the world is as it was. ('h0', 'h1': x is a uint32.) (LAID: no walk: one application.) -/
theorem Yba.bits_Len32 (x : Int) (w : World) (h0 : 0 ≤ x) (h1 : x ≤ 4294967295) :
    Calls Yba.prog 36 #[.int .u32 x] w fun e w' => e = .returned (.int .i64 (Lib.bitLen x.toNat)) ∧ w' = w := Any.bits_Len32 Yba.lays128 x w h0 h1
def Yba.lays125_ren : Go.Shelf.Ren := ⟨fun | 125 => 26 | 128 => 36 | 129 => 37 | n => n, fun | 46 => 51 | 3 => 3 | 51 => 75 | 53 => 77 | 4 => 4 | 5 => 5 | 9 => 9 | n => n, fun | n => n⟩
theorem Yba.lays125 : Go.Proofs.Lays.n125 Yba.prog Yba.lays125_ren := {
  mixed := by kernel_rfl
  f125 := Yba.func26.trans (congrArg some (by kernel_rfl))
  f128 := Yba.func36.trans (congrArg some (by kernel_rfl))
  f129 := Yba.func37.trans (congrArg some (by kernel_rfl))
  t3 := Yba.underlying3
  a3 := Yba.isAgg3
  z3 := Yba.sizeOf3
  v3 := Yba.zeroValue3
  t4 := Yba.underlying4
  a4 := Yba.isAgg4
  z4 := Yba.sizeOf4
  v4 := Yba.zeroValue4
  t5 := Yba.underlying5
  a5 := Yba.isAgg5
  z5 := Yba.sizeOf5
  v5 := Yba.zeroValue5
  t9 := Yba.underlying9
  a9 := Yba.isAgg9
  z9 := Yba.sizeOf9
  v9 := Yba.zeroValue9
  t46 := Yba.underlying51
  a46 := Yba.isAgg51
  z46 := Yba.sizeOf51
  v46 := Yba.zeroValue51
  t51 := Yba.underlying75
  a51 := Yba.isAgg75
  z51 := Yba.sizeOf75
  v51 := Yba.zeroValue75
  t53 := Yba.underlying77
  a53 := Yba.isAgg77
  z53 := Yba.sizeOf77
  v53 := Yba.zeroValue77 }
/-- bits.Len: "Len returns the minimum number of bits required to represent x; the result is 0 for x == 0.": IT RETURNS 'Lib.bitLen x'; the world is as it was. (A uint has 64 bits in the model.) ITS CALLEE bits.Len64 IS MET BY ITS OWN CONTRACT OFF THE SHELF (lay that first). (LAID: no walk: one application.) -/
theorem Yba.bits_Len (x : Int) (w : World) (h0 : 0 ≤ x) (h1 : x ≤ 18446744073709551615) :
    Calls Yba.prog 26 #[.int .u64 x] w fun e w' => e = .returned (.int .i64 (Lib.bitLen x.toNat)) ∧ w' = w := Any.bits_Len Yba.lays125 x w h0 h1
def Yba.lays129_ren : Go.Shelf.Ren := ⟨fun | 129 => 37 | n => n, fun | 53 => 77 | 3 => 3 | 4 => 4 | 46 => 51 | 5 => 5 | 9 => 9 | n => n, fun | n => n⟩
theorem Yba.lays129 : Go.Proofs.Lays.n129 Yba.prog Yba.lays129_ren := {
  mixed := by kernel_rfl
  f129 := Yba.func37.trans (congrArg some (by kernel_rfl))
  t3 := Yba.underlying3
  a3 := Yba.isAgg3
  z3 := Yba.sizeOf3
  v3 := Yba.zeroValue3
  t4 := Yba.underlying4
  a4 := Yba.isAgg4
  z4 := Yba.sizeOf4
  v4 := Yba.zeroValue4
  t5 := Yba.underlying5
  a5 := Yba.isAgg5
  z5 := Yba.sizeOf5
  v5 := Yba.zeroValue5
  t9 := Yba.underlying9
  a9 := Yba.isAgg9
  z9 := Yba.sizeOf9
  v9 := Yba.zeroValue9
  t46 := Yba.underlying51
  a46 := Yba.isAgg51
  z46 := Yba.sizeOf51
  v46 := Yba.zeroValue51
  t53 := Yba.underlying77
  a53 := Yba.isAgg77
  z53 := Yba.sizeOf77
  v53 := Yba.zeroValue77 }
/-- bits.Len64: "Len64 returns the minimum number of bits required to represent x; the result is 0 for x == 0.": IT RETURNS 'Lib.bitLen x'; the world is as it was. ('h0', 'h1': x is a uint64.) (LAID: no walk: one application.) -/
theorem Yba.bits_Len64 (x : Int) (w : World) (h0 : 0 ≤ x) (h1 : x ≤ 18446744073709551615) :
    Calls Yba.prog 37 #[.int .u64 x] w fun e w' => e = .returned (.int .i64 (Lib.bitLen x.toNat)) ∧ w' = w := Any.bits_Len64 Yba.lays129 x w h0 h1
def Yba.lays190_ren : Go.Shelf.Ren := ⟨fun | 190 => 24 | 125 => 26 | 258 => 25 | 128 => 36 | 129 => 37 | 302 => 27 | 303 => 28 | 304 => 29 | 305 => 30 | 306 => 31 | 307 => 32 | 308 => 33 | 309 => 34 | 310 => 35 | 333 => 38 | 329 => 39 | 330 => 40 | 334 => 41 | 335 => 42 | 336 => 43 | 344 => 44 | n => n, fun | 31 => 23 | 9 => 9 | 3 => 3 | 46 => 51 | 0 => 0 | 51 => 75 | 53 => 77 | 4 => 4 | 183 => 68 | 182 => 67 | 131 => 72 | 5 => 5 | 218 => 78 | 222 => 82 | 228 => 84 | 229 => 85 | n => n, fun | n => n⟩
theorem Yba.lays190 : Go.Proofs.Lays.n190 Yba.prog Yba.lays190_ren := {
  mixed := by kernel_rfl
  f125 := Yba.func26.trans (congrArg some (by kernel_rfl))
  f128 := Yba.func36.trans (congrArg some (by kernel_rfl))
  f129 := Yba.func37.trans (congrArg some (by kernel_rfl))
  f190 := Yba.func24.trans (congrArg some (by kernel_rfl))
  f258 := Yba.func25.trans (congrArg some (by kernel_rfl))
  f302 := Yba.func27.trans (congrArg some (by kernel_rfl))
  f303 := Yba.func28.trans (congrArg some (by kernel_rfl))
  f304 := Yba.func29.trans (congrArg some (by kernel_rfl))
  f305 := Yba.func30.trans (congrArg some (by kernel_rfl))
  f306 := Yba.func31.trans (congrArg some (by kernel_rfl))
  f307 := Yba.func32.trans (congrArg some (by kernel_rfl))
  f308 := Yba.func33.trans (congrArg some (by kernel_rfl))
  f309 := Yba.func34.trans (congrArg some (by kernel_rfl))
  f310 := Yba.func35.trans (congrArg some (by kernel_rfl))
  f329 := Yba.func39.trans (congrArg some (by kernel_rfl))
  f330 := Yba.func40.trans (congrArg some (by kernel_rfl))
  f333 := Yba.func38.trans (congrArg some (by kernel_rfl))
  f334 := Yba.func41.trans (congrArg some (by kernel_rfl))
  f335 := Yba.func42.trans (congrArg some (by kernel_rfl))
  f336 := Yba.func43.trans (congrArg some (by kernel_rfl))
  f344 := Yba.func44.trans (congrArg some (by kernel_rfl))
  t0 := Yba.underlying0
  a0 := Yba.isAgg0
  z0 := Yba.sizeOf0
  v0 := Yba.zeroValue0
  t3 := Yba.underlying3
  a3 := Yba.isAgg3
  z3 := Yba.sizeOf3
  v3 := Yba.zeroValue3
  t4 := Yba.underlying4
  a4 := Yba.isAgg4
  z4 := Yba.sizeOf4
  v4 := Yba.zeroValue4
  t5 := Yba.underlying5
  a5 := Yba.isAgg5
  z5 := Yba.sizeOf5
  v5 := Yba.zeroValue5
  t9 := Yba.underlying9
  a9 := Yba.isAgg9
  z9 := Yba.sizeOf9
  v9 := Yba.zeroValue9
  t31 := Yba.underlying23
  a31 := Yba.isAgg23
  z31 := Yba.sizeOf23
  v31 := Yba.zeroValue23
  t46 := Yba.underlying51
  a46 := Yba.isAgg51
  z46 := Yba.sizeOf51
  v46 := Yba.zeroValue51
  t51 := Yba.underlying75
  a51 := Yba.isAgg75
  z51 := Yba.sizeOf75
  v51 := Yba.zeroValue75
  t53 := Yba.underlying77
  a53 := Yba.isAgg77
  z53 := Yba.sizeOf77
  v53 := Yba.zeroValue77
  t131 := Yba.underlying72
  a131 := Yba.isAgg72
  z131 := Yba.sizeOf72
  v131 := Yba.zeroValue72
  t182 := Yba.underlying67
  a182 := Yba.isAgg67
  z182 := Yba.sizeOf67
  v182 := Yba.zeroValue67
  t183 := Yba.underlying68
  a183 := Yba.isAgg68
  z183 := Yba.sizeOf68
  v183 := Yba.zeroValue68
  t218 := Yba.underlying78
  a218 := Yba.isAgg78
  z218 := Yba.sizeOf78
  v218 := Yba.zeroValue78
  t222 := Yba.underlying82
  a222 := Yba.isAgg82
  z222 := Yba.sizeOf82
  v222 := Yba.zeroValue82
  t228 := Yba.underlying84
  a228 := Yba.isAgg84
  z228 := Yba.sizeOf84
  v228 := Yba.zeroValue84
  t229 := Yba.underlying85
  a229 := Yba.isAgg85
  z229 := Yba.sizeOf85
  v229 := Yba.zeroValue85 }
open Go.Sort Go.RowKit in
theorem Yba.slices_Sort_string (blk off cap : Nat) (ss : List (List UInt8)) (w : World) (hH : Holds encStr w blk off ss.toArray) (hblk : blk < w.heap.size) (hsz : ss.length < 4611686018427387904) :
    Calls Yba.prog 24 #[.slice (some ⟨blk, off, none⟩) ss.length cap] w fun e w' =>
      e = .returned (.tuple #[]) ∧ ∃ n os, w' = grow (putRow encStr (Sort.ahead w n) blk off (ss.mergeSort fun x y => decide (x ≤ y)).toArray) os := Any.slices_Sort_string Yba.lays190 blk off cap ss w hH hblk hsz
def Yba.laysNm216_ren : Go.Shelf.Ren := ⟨fun | 16 => 9 | n => n, fun | 24 => 23 | 9 => 9 | 4 => 4 | n => n, fun | n => n⟩
theorem Yba.laysNm216 : Go.Proofs.Lays2.n16 Yba.prog Yba.laysNm216_ren := {
  mixed := by kernel_rfl
  f16 := Yba.func9.trans (congrArg some (by kernel_rfl))
  t4 := Yba.underlying4
  a4 := Yba.isAgg4
  z4 := Yba.sizeOf4
  v4 := Yba.zeroValue4
  t9 := Yba.underlying9
  a9 := Yba.isAgg9
  z9 := Yba.sizeOf9
  v9 := Yba.zeroValue9
  t24 := Yba.underlying23
  a24 := Yba.isAgg23
  z24 := Yba.sizeOf23
  v24 := Yba.zeroValue23
  i9 := by kernel_rfl }
open Go.RowKit Go.Lib in
/-- slices.Clone at []string: "Clone returns a copy of the slice. The elements are copied using assignment, so this is a shallow clone. The result may have additional unused capacity. The result preserves the nilness of s.": OF A SLICE THAT IS NOT nil IT RETURNS A SLICE THAT IS NOT nil, OF THE SAME ELEMENTS, IN MEMORY OF THE CALL's OWN: in the how-to's words (6f): 'w'.ownsRow B e 1 v' n cells': v' begins at the head of a row among the blocks from B on (B: the heap's size at the call), not frozen, whose first cells are the elements · 'Below B w w'': below B all is as it was. The capacity is whatever the run-time gives. 'zs': what the cells behind the slice's address hold; 'zs.take n': its elements. (LAID: no walk: one application.) -/
theorem Yba.slices_Clone_string (b off n c : Nat) (zs : List ByteArray) (w : World) (hz : n ≤ zs.length) (hbig : n * 16 ≤ 140737488355328) (hc : ∀ j, j < zs.length → w.cell? ⟨b, off + j, none⟩ = some (.string (zs.getD j ByteArray.empty))) :
    Calls Yba.prog 9 #[.slice (some ⟨b, off, none⟩) n c] w fun e w' => ∃ v', e = .returned v' ∧ w'.ownsRow w.heap.size 9 1 v' n ((zs.take n).map (Value.string)) ∧ v' ≠ .slice none 0 0 ∧ Below w.heap.size w w' := Any.slices_Clone_string Yba.laysNm216 b off n c zs w hz hbig hc
open Go.RowKit Go.Lib in
/-- The same at nil: nil comes back; the world is as it was. (LAID: no walk: one application.) -/
theorem Yba.slices_Clone_string_nil (n c : Nat) (w : World) :
    Calls Yba.prog 9 #[.slice none n c] w fun e w' => e = .returned (.slice none 0 0) ∧ w' = w := Any.slices_Clone_string_nil Yba.laysNm216 n c w
open Go.RowKit Go.Lib in
/-- The same at a slice of length 0 that is not nil, WHATEVER ITS ADDRESS (no cell is asked for): a slice that is not nil and owns nothing comes back. (LAID: no walk: one application.) -/
theorem Yba.slices_Clone_string_zero (a : Addr) (c : Nat) (w : World) :
    Calls Yba.prog 9 #[.slice (some a) 0 c] w fun e w' => ∃ v', e = .returned v' ∧ w'.ownsRow w.heap.size 9 1 v' 0 [] ∧ v' ≠ .slice none 0 0 ∧ Below w.heap.size w w' := Any.slices_Clone_string_zero Yba.laysNm216 a c w
def Yba.laysSlE041_f9_ren : Go.Shelf.Ren := ⟨fun | 41 => 9 | n => n, fun | 22 => 23 | 23 => 9 | 4 => 4 | n => n, fun | n => n⟩
theorem Yba.laysSlE041_f9 : Go.Proofs.SlLaysE0.n41 Yba.prog Yba.laysSlE041_f9_ren := {
  mixed := by kernel_rfl
  f41 := ⟨Yba.f9.name, by decide, Yba.func9.trans (congrArg some (by kernel_rfl))⟩
  t4 := Yba.underlying4
  a4 := Yba.isAgg4
  z4 := Yba.sizeOf4
  v4 := Yba.zeroValue4
  t22 := Yba.underlying23
  a22 := Yba.isAgg23
  z22 := Yba.sizeOf23
  v22 := Yba.zeroValue23 }
open Go.RowKit Go.Lib in
/-- slices.Clone: "Clone returns a copy of the slice. The elements are copied using assignment, so this is a shallow clone. The result may have additional unused capacity. The result preserves the nilness of s.": OF A SLICE THAT IS NOT nil IT RETURNS A SLICE THAT IS NOT nil, OF THE SAME CELLS, IN MEMORY OF THE CALL's OWN ('ownsRow': the how-to's 6f); below the heap's size at the call all is as it was. (LAID AT THE INSTANCE 'slices.Clone[[]string,string]': no walk: one application.) -/
theorem Yba.slices_Clone (i0 : TypeInfo) (z : Value) (size bytes : Nat) (hi : Yba.prog.info? 9 = some i0) (hz0 : i0.zero = some z) (hz1 : i0.size = size) (hz2 : i0.bytes = bytes) (hzs : z.cells.size = size) (hsz : 0 < size) (z23 : ∀ w, (Go.sizeOf 9).run Yba.prog w = .ok size w) (b off n c : Nat) (news : List Value) (w : World) (hl : news.length = n * size) (hn : n ≤ maxLen) (hbig : n * bytes ≤ 140737488355328) (hc : ∀ j u, news[j]? = some u → w.cell? ⟨b, off + j, none⟩ = some u) (h1 : ∀ u ∈ news, u.oneCell' = true) :
    Calls Yba.prog 9 #[.slice (some ⟨b, off, none⟩) n c] w fun e w' => ∃ v', e = .returned v' ∧ w'.ownsRow w.heap.size 9 size v' n news ∧ v' ≠ .slice none 0 0 ∧ Below w.heap.size w w' := AnyE.slices_Clone Yba.laysSlE041_f9 i0 z size bytes hi hz0 hz1 hz2 hzs hsz z23 b off n c news w hl hn hbig hc h1
open Go.RowKit Go.Lib in
/-- The same at nil: nil comes back; the world is as it was; nothing is asked of the element's type. (LAID AT THE INSTANCE 'slices.Clone[[]string,string]': no walk: one application.) -/
theorem Yba.slices_Clone_nil (n c : Nat) (w : World) :
    Calls Yba.prog 9 #[.slice none n c] w fun e w' => e = .returned (.slice none 0 0) ∧ w' = w := AnyE.slices_Clone_nil Yba.laysSlE041_f9 n c w
end Go.Proofs
