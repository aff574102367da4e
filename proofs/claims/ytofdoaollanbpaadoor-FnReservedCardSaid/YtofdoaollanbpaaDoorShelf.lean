/-
  DERIVED: THE SHELF's CONTRACTS AT THIS DUMP, IN PLAIN WORDS (tools/lay-plain.mjs out of 'TrydShelf.lean', which tools/lay-shelf.mjs wrote): THE SAME DECLARATIONS UNDER THE SAME NAMES: 'import', 'namespace', 'open', 'def', 'theorem' AND NOTHING ELSE: no command of the shelf's: FOR A HAND-IN. Each laying: the table of numbers ('.._ren') and one theorem, a field a fact of the dump's own or the kernel's comparison; each contract: ONE APPLICATION.
-/
import Derived.Shelf.Small.Bits
import Derived.Shelf.Strconv.Itoa0
import Derived.Shelf.Sort.Plain
import Derived.Ground.Names2Prog
import Derived.Shelf.Slices.Clone
import Derived.Shelf.Slices.In.SortNone
import Derived.Ground.SlgnProg
import Derived.Shelf.SlicesE.Clone
import Derived.Test.YtofdoaollanbpaaDoorProg
namespace Go.Proofs
open Go.Shelf
def Tryd.lays128_ren : Go.Shelf.Ren := ⟨fun | 128 => 52 | n => n, fun | 51 => 35 | 3 => 3 | 4 => 4 | 46 => 96 | 5 => 5 | 9 => 9 | n => n, fun | n => n⟩
theorem Tryd.lays128 : Go.Proofs.Lays.n128 Tryd.prog Tryd.lays128_ren := {
  mixed := by kernel_rfl
  f128 := Tryd.func52.trans (congrArg some (by kernel_rfl))
  t3 := Tryd.underlying3
  a3 := Tryd.isAgg3
  z3 := Tryd.sizeOf3
  v3 := Tryd.zeroValue3
  t4 := Tryd.underlying4
  a4 := Tryd.isAgg4
  z4 := Tryd.sizeOf4
  v4 := Tryd.zeroValue4
  t5 := Tryd.underlying5
  a5 := Tryd.isAgg5
  z5 := Tryd.sizeOf5
  v5 := Tryd.zeroValue5
  t9 := Tryd.underlying9
  a9 := Tryd.isAgg9
  z9 := Tryd.sizeOf9
  v9 := Tryd.zeroValue9
  t46 := Tryd.underlying96
  a46 := Tryd.isAgg96
  z46 := Tryd.sizeOf96
  v46 := Tryd.zeroValue96
  t51 := Tryd.underlying35
  a51 := Tryd.isAgg35
  z51 := Tryd.sizeOf35
  v51 := Tryd.zeroValue35 }
/-- bits.Len32: "Len32 returns the minimum number of bits required to represent x; the result is 0 for x == 0.": IT RETURNS 'Lib.bitLen x'; the world is as it was. ('h0', 'h1': x is a uint32.) (LAID: no walk: one application.) -/
theorem Tryd.bits_Len32 (x : Int) (w : World) (h0 : 0 ≤ x) (h1 : x ≤ 4294967295) :
    Calls Tryd.prog 52 #[.int .u32 x] w fun e w' => e = .returned (.int .i64 (Lib.bitLen x.toNat)) ∧ w' = w := Any.bits_Len32 Tryd.lays128 x w h0 h1
def Tryd.lays125_ren : Go.Shelf.Ren := ⟨fun | 125 => 36 | 128 => 52 | 129 => 53 | n => n, fun | 46 => 96 | 3 => 3 | 51 => 35 | 53 => 112 | 4 => 4 | 5 => 5 | 9 => 9 | n => n, fun | n => n⟩
theorem Tryd.lays125 : Go.Proofs.Lays.n125 Tryd.prog Tryd.lays125_ren := {
  mixed := by kernel_rfl
  f125 := Tryd.func36.trans (congrArg some (by kernel_rfl))
  f128 := Tryd.func52.trans (congrArg some (by kernel_rfl))
  f129 := Tryd.func53.trans (congrArg some (by kernel_rfl))
  t3 := Tryd.underlying3
  a3 := Tryd.isAgg3
  z3 := Tryd.sizeOf3
  v3 := Tryd.zeroValue3
  t4 := Tryd.underlying4
  a4 := Tryd.isAgg4
  z4 := Tryd.sizeOf4
  v4 := Tryd.zeroValue4
  t5 := Tryd.underlying5
  a5 := Tryd.isAgg5
  z5 := Tryd.sizeOf5
  v5 := Tryd.zeroValue5
  t9 := Tryd.underlying9
  a9 := Tryd.isAgg9
  z9 := Tryd.sizeOf9
  v9 := Tryd.zeroValue9
  t46 := Tryd.underlying96
  a46 := Tryd.isAgg96
  z46 := Tryd.sizeOf96
  v46 := Tryd.zeroValue96
  t51 := Tryd.underlying35
  a51 := Tryd.isAgg35
  z51 := Tryd.sizeOf35
  v51 := Tryd.zeroValue35
  t53 := Tryd.underlying112
  a53 := Tryd.isAgg112
  z53 := Tryd.sizeOf112
  v53 := Tryd.zeroValue112 }
/-- bits.Len: "Len returns the minimum number of bits required to represent x; the result is 0 for x == 0.": IT RETURNS 'Lib.bitLen x'; the world is as it was. (A uint has 64 bits in the model.) ITS CALLEE bits.Len64 IS MET BY ITS OWN CONTRACT OFF THE SHELF (lay that first). (LAID: no walk: one application.) -/
theorem Tryd.bits_Len (x : Int) (w : World) (h0 : 0 ≤ x) (h1 : x ≤ 18446744073709551615) :
    Calls Tryd.prog 36 #[.int .u64 x] w fun e w' => e = .returned (.int .i64 (Lib.bitLen x.toNat)) ∧ w' = w := Any.bits_Len Tryd.lays125 x w h0 h1
def Tryd.lays129_ren : Go.Shelf.Ren := ⟨fun | 129 => 53 | n => n, fun | 53 => 112 | 3 => 3 | 4 => 4 | 46 => 96 | 5 => 5 | 9 => 9 | n => n, fun | n => n⟩
theorem Tryd.lays129 : Go.Proofs.Lays.n129 Tryd.prog Tryd.lays129_ren := {
  mixed := by kernel_rfl
  f129 := Tryd.func53.trans (congrArg some (by kernel_rfl))
  t3 := Tryd.underlying3
  a3 := Tryd.isAgg3
  z3 := Tryd.sizeOf3
  v3 := Tryd.zeroValue3
  t4 := Tryd.underlying4
  a4 := Tryd.isAgg4
  z4 := Tryd.sizeOf4
  v4 := Tryd.zeroValue4
  t5 := Tryd.underlying5
  a5 := Tryd.isAgg5
  z5 := Tryd.sizeOf5
  v5 := Tryd.zeroValue5
  t9 := Tryd.underlying9
  a9 := Tryd.isAgg9
  z9 := Tryd.sizeOf9
  v9 := Tryd.zeroValue9
  t46 := Tryd.underlying96
  a46 := Tryd.isAgg96
  z46 := Tryd.sizeOf96
  v46 := Tryd.zeroValue96
  t53 := Tryd.underlying112
  a53 := Tryd.isAgg112
  z53 := Tryd.sizeOf112
  v53 := Tryd.zeroValue112 }
/-- bits.Len64: "Len64 returns the minimum number of bits required to represent x; the result is 0 for x == 0.": IT RETURNS 'Lib.bitLen x'; the world is as it was. ('h0', 'h1': x is a uint64.) (LAID: no walk: one application.) -/
theorem Tryd.bits_Len64 (x : Int) (w : World) (h0 : 0 ≤ x) (h1 : x ≤ 18446744073709551615) :
    Calls Tryd.prog 53 #[.int .u64 x] w fun e w' => e = .returned (.int .i64 (Lib.bitLen x.toNat)) ∧ w' = w := Any.bits_Len64 Tryd.lays129 x w h0 h1
def Tryd.lays190_ren : Go.Shelf.Ren := ⟨fun | 190 => 22 | 125 => 36 | 258 => 35 | 128 => 52 | 129 => 53 | 302 => 43 | 303 => 44 | 304 => 45 | 305 => 46 | 306 => 47 | 307 => 48 | 308 => 49 | 309 => 50 | 310 => 51 | 333 => 56 | 329 => 57 | 330 => 58 | 334 => 59 | 335 => 60 | 336 => 61 | 344 => 62 | n => n, fun | 31 => 28 | 9 => 9 | 3 => 3 | 46 => 96 | 0 => 0 | 51 => 35 | 53 => 112 | 4 => 4 | 183 => 103 | 182 => 102 | 131 => 108 | 5 => 5 | 218 => 113 | 222 => 117 | 228 => 119 | 229 => 120 | n => n, fun | n => n⟩
theorem Tryd.lays190 : Go.Proofs.Lays.n190 Tryd.prog Tryd.lays190_ren := {
  mixed := by kernel_rfl
  f125 := Tryd.func36.trans (congrArg some (by kernel_rfl))
  f128 := Tryd.func52.trans (congrArg some (by kernel_rfl))
  f129 := Tryd.func53.trans (congrArg some (by kernel_rfl))
  f190 := Tryd.func22.trans (congrArg some (by kernel_rfl))
  f258 := Tryd.func35.trans (congrArg some (by kernel_rfl))
  f302 := Tryd.func43.trans (congrArg some (by kernel_rfl))
  f303 := Tryd.func44.trans (congrArg some (by kernel_rfl))
  f304 := Tryd.func45.trans (congrArg some (by kernel_rfl))
  f305 := Tryd.func46.trans (congrArg some (by kernel_rfl))
  f306 := Tryd.func47.trans (congrArg some (by kernel_rfl))
  f307 := Tryd.func48.trans (congrArg some (by kernel_rfl))
  f308 := Tryd.func49.trans (congrArg some (by kernel_rfl))
  f309 := Tryd.func50.trans (congrArg some (by kernel_rfl))
  f310 := Tryd.func51.trans (congrArg some (by kernel_rfl))
  f329 := Tryd.func57.trans (congrArg some (by kernel_rfl))
  f330 := Tryd.func58.trans (congrArg some (by kernel_rfl))
  f333 := Tryd.func56.trans (congrArg some (by kernel_rfl))
  f334 := Tryd.func59.trans (congrArg some (by kernel_rfl))
  f335 := Tryd.func60.trans (congrArg some (by kernel_rfl))
  f336 := Tryd.func61.trans (congrArg some (by kernel_rfl))
  f344 := Tryd.func62.trans (congrArg some (by kernel_rfl))
  t0 := Tryd.underlying0
  a0 := Tryd.isAgg0
  z0 := Tryd.sizeOf0
  v0 := Tryd.zeroValue0
  t3 := Tryd.underlying3
  a3 := Tryd.isAgg3
  z3 := Tryd.sizeOf3
  v3 := Tryd.zeroValue3
  t4 := Tryd.underlying4
  a4 := Tryd.isAgg4
  z4 := Tryd.sizeOf4
  v4 := Tryd.zeroValue4
  t5 := Tryd.underlying5
  a5 := Tryd.isAgg5
  z5 := Tryd.sizeOf5
  v5 := Tryd.zeroValue5
  t9 := Tryd.underlying9
  a9 := Tryd.isAgg9
  z9 := Tryd.sizeOf9
  v9 := Tryd.zeroValue9
  t31 := Tryd.underlying28
  a31 := Tryd.isAgg28
  z31 := Tryd.sizeOf28
  v31 := Tryd.zeroValue28
  t46 := Tryd.underlying96
  a46 := Tryd.isAgg96
  z46 := Tryd.sizeOf96
  v46 := Tryd.zeroValue96
  t51 := Tryd.underlying35
  a51 := Tryd.isAgg35
  z51 := Tryd.sizeOf35
  v51 := Tryd.zeroValue35
  t53 := Tryd.underlying112
  a53 := Tryd.isAgg112
  z53 := Tryd.sizeOf112
  v53 := Tryd.zeroValue112
  t131 := Tryd.underlying108
  a131 := Tryd.isAgg108
  z131 := Tryd.sizeOf108
  v131 := Tryd.zeroValue108
  t182 := Tryd.underlying102
  a182 := Tryd.isAgg102
  z182 := Tryd.sizeOf102
  v182 := Tryd.zeroValue102
  t183 := Tryd.underlying103
  a183 := Tryd.isAgg103
  z183 := Tryd.sizeOf103
  v183 := Tryd.zeroValue103
  t218 := Tryd.underlying113
  a218 := Tryd.isAgg113
  z218 := Tryd.sizeOf113
  v218 := Tryd.zeroValue113
  t222 := Tryd.underlying117
  a222 := Tryd.isAgg117
  z222 := Tryd.sizeOf117
  v222 := Tryd.zeroValue117
  t228 := Tryd.underlying119
  a228 := Tryd.isAgg119
  z228 := Tryd.sizeOf119
  v228 := Tryd.zeroValue119
  t229 := Tryd.underlying120
  a229 := Tryd.isAgg120
  z229 := Tryd.sizeOf120
  v229 := Tryd.zeroValue120 }
open Go.Sort Go.RowKit in
theorem Tryd.slices_Sort_string (blk off cap : Nat) (ss : List (List UInt8)) (w : World) (hH : Holds encStr w blk off ss.toArray) (hblk : blk < w.heap.size) (hsz : ss.length < 4611686018427387904) :
    Calls Tryd.prog 22 #[.slice (some ⟨blk, off, none⟩) ss.length cap] w fun e w' =>
      e = .returned (.tuple #[]) ∧ ∃ n os, w' = grow (putRow encStr (Sort.ahead w n) blk off (ss.mergeSort fun x y => decide (x ≤ y)).toArray) os := Any.slices_Sort_string Tryd.lays190 blk off cap ss w hH hblk hsz
def Tryd.laysNm215_ren : Go.Shelf.Ren := ⟨fun | 15 => 29 | n => n, fun | 22 => 32 | 3 => 3 | 4 => 4 | n => n, fun | n => n⟩
theorem Tryd.laysNm215 : Go.Proofs.Lays2.n15 Tryd.prog Tryd.laysNm215_ren := {
  mixed := by kernel_rfl
  f15 := Tryd.func29.trans (congrArg some (by kernel_rfl))
  t3 := Tryd.underlying3
  a3 := Tryd.isAgg3
  z3 := Tryd.sizeOf3
  v3 := Tryd.zeroValue3
  t4 := Tryd.underlying4
  a4 := Tryd.isAgg4
  z4 := Tryd.sizeOf4
  v4 := Tryd.zeroValue4
  t22 := Tryd.underlying32
  a22 := Tryd.isAgg32
  z22 := Tryd.sizeOf32
  v22 := Tryd.zeroValue32
  i3 := by kernel_rfl }
open Go.RowKit Go.Lib in
/-- slices.Clone at []int: "Clone returns a copy of the slice. The elements are copied using assignment, so this is a shallow clone. The result may have additional unused capacity. The result preserves the nilness of s.": OF A SLICE THAT IS NOT nil IT RETURNS A SLICE THAT IS NOT nil, OF THE SAME ELEMENTS, IN MEMORY OF THE CALL's OWN: in the how-to's words (6f): 'w'.ownsRow B e 1 v' n cells': v' begins at the head of a row among the blocks from B on (B: the heap's size at the call), not frozen, whose first cells are the elements · 'Below B w w'': below B all is as it was. The capacity is whatever the run-time gives. 'zs': what the cells behind the slice's address hold; 'zs.take n': its elements. (LAID: no walk: one application.) -/
theorem Tryd.slices_Clone_int (b off n c : Nat) (zs : List Int) (w : World) (hz : n ≤ zs.length) (hbig : n * 8 ≤ 140737488355328) (hc : ∀ j, j < zs.length → w.cell? ⟨b, off + j, none⟩ = some (.int .i64 (zs.getD j 0))) :
    Calls Tryd.prog 29 #[.slice (some ⟨b, off, none⟩) n c] w fun e w' => ∃ v', e = .returned v' ∧ w'.ownsRow w.heap.size 3 1 v' n ((zs.take n).map (Value.int .i64)) ∧ v' ≠ .slice none 0 0 ∧ Below w.heap.size w w' := Any.slices_Clone_int Tryd.laysNm215 b off n c zs w hz hbig hc
open Go.RowKit Go.Lib in
/-- The same at nil: nil comes back; the world is as it was. (LAID: no walk: one application.) -/
theorem Tryd.slices_Clone_int_nil (n c : Nat) (w : World) :
    Calls Tryd.prog 29 #[.slice none n c] w fun e w' => e = .returned (.slice none 0 0) ∧ w' = w := Any.slices_Clone_int_nil Tryd.laysNm215 n c w
open Go.RowKit Go.Lib in
/-- The same at a slice of length 0 that is not nil, WHATEVER ITS ADDRESS (no cell is asked for): a slice that is not nil and owns nothing comes back. (LAID: no walk: one application.) -/
theorem Tryd.slices_Clone_int_zero (a : Addr) (c : Nat) (w : World) :
    Calls Tryd.prog 29 #[.slice (some a) 0 c] w fun e w' => ∃ v', e = .returned v' ∧ w'.ownsRow w.heap.size 3 1 v' 0 [] ∧ v' ≠ .slice none 0 0 ∧ Below w.heap.size w w' := Any.slices_Clone_int_zero Tryd.laysNm215 a c w
open Go.RowKit Go.Sort in
/-- .. and plain. (LAID: no walk: one application.) -/
theorem Tryd.slices_Sort_string_none (p : Option Addr) (cap : Nat) (w : World) :
    Calls Tryd.prog 22 #[.slice p 0 cap] w fun e w' => e = .returned (.tuple #[]) ∧ w' = w := Any.slices_Sort_string_none Tryd.lays190 p cap w
def Tryd.laysSlE041_f29_ren : Go.Shelf.Ren := ⟨fun | 41 => 29 | n => n, fun | 22 => 32 | 23 => 3 | 4 => 4 | n => n, fun | n => n⟩
theorem Tryd.laysSlE041_f29 : Go.Proofs.SlLaysE0.n41 Tryd.prog Tryd.laysSlE041_f29_ren := {
  mixed := by kernel_rfl
  f41 := ⟨Tryd.f29.name, by decide, Tryd.func29.trans (congrArg some (by kernel_rfl))⟩
  t4 := Tryd.underlying4
  a4 := Tryd.isAgg4
  z4 := Tryd.sizeOf4
  v4 := Tryd.zeroValue4
  t22 := Tryd.underlying32
  a22 := Tryd.isAgg32
  z22 := Tryd.sizeOf32
  v22 := Tryd.zeroValue32 }
open Go.RowKit Go.Lib in
/-- slices.Clone: "Clone returns a copy of the slice. The elements are copied using assignment, so this is a shallow clone. The result may have additional unused capacity. The result preserves the nilness of s.": OF A SLICE THAT IS NOT nil IT RETURNS A SLICE THAT IS NOT nil, OF THE SAME CELLS, IN MEMORY OF THE CALL's OWN ('ownsRow': the how-to's 6f); below the heap's size at the call all is as it was. (LAID AT THE INSTANCE 'slices.Clone[[]int,int]': no walk: one application.) -/
theorem Tryd.slices_Clone (i0 : TypeInfo) (z : Value) (size bytes : Nat) (hi : Tryd.prog.info? 3 = some i0) (hz0 : i0.zero = some z) (hz1 : i0.size = size) (hz2 : i0.bytes = bytes) (hzs : z.cells.size = size) (hsz : 0 < size) (z23 : ∀ w, (Go.sizeOf 3).run Tryd.prog w = .ok size w) (b off n c : Nat) (news : List Value) (w : World) (hl : news.length = n * size) (hn : n ≤ maxLen) (hbig : n * bytes ≤ 140737488355328) (hc : ∀ j u, news[j]? = some u → w.cell? ⟨b, off + j, none⟩ = some u) (h1 : ∀ u ∈ news, u.oneCell' = true) :
    Calls Tryd.prog 29 #[.slice (some ⟨b, off, none⟩) n c] w fun e w' => ∃ v', e = .returned v' ∧ w'.ownsRow w.heap.size 3 size v' n news ∧ v' ≠ .slice none 0 0 ∧ Below w.heap.size w w' := AnyE.slices_Clone Tryd.laysSlE041_f29 i0 z size bytes hi hz0 hz1 hz2 hzs hsz z23 b off n c news w hl hn hbig hc h1
open Go.RowKit Go.Lib in
/-- The same at nil: nil comes back; the world is as it was; nothing is asked of the element's type. (LAID AT THE INSTANCE 'slices.Clone[[]int,int]': no walk: one application.) -/
theorem Tryd.slices_Clone_nil (n c : Nat) (w : World) :
    Calls Tryd.prog 29 #[.slice none n c] w fun e w' => e = .returned (.slice none 0 0) ∧ w' = w := AnyE.slices_Clone_nil Tryd.laysSlE041_f29 n c w
end Go.Proofs
