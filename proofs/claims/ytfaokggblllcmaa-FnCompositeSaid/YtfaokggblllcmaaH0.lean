/-
  DERIVED: THE SHELF's CONTRACTS AT THIS DUMP, IN PLAIN WORDS (tools/lay-plain.mjs out of 'TryShelf.lean', which tools/lay-shelf.mjs wrote): THE SAME DECLARATIONS UNDER THE SAME NAMES: 'import', 'namespace', 'open', 'def', 'theorem' AND NOTHING ELSE: no command of the shelf's: FOR A HAND-IN. Each laying: the table of numbers ('.._ren') and one theorem, a field a fact of the dump's own or the kernel's comparison; each contract: ONE APPLICATION.
-/
import Derived.Shelf.Small.Bits
import Derived.Shelf.Strconv.Itoa0
import Derived.Shelf.Sort.Plain
import Derived.Ground.GgsProg
import Derived.Shelf.GgSortFunc.Insertion
import Derived.Shelf.GgSortFunc.Small
import Derived.Shelf.GgSortFunc.InsertionK
import Derived.Shelf.GgSortFunc.SmallK
import Derived.Shelf.GgSortFunc.Tiny
import Derived.Shelf.GgSortFunc.Compose
import Derived.Shelf.GgSortFunc.LotD
import Derived.Shelf.GgSortFunc.Pivot
import Derived.Shelf.GgSortFunc.Partition
import Derived.Shelf.GgSortFunc.Pdq
import Derived.Shelf.GgSortFunc.Whole
import Derived.Shelf.Slices.Turned
import Derived.Shelf.Slices.Equal
import Derived.Shelf.Slices.In.SortNone
import Derived.Shelf.Slices.In.SortNone2
import Derived.Shelf.Slices.Empties2
import Derived.Shelf.SlSortFunc.Xorshift
import Derived.Shelf.SlSortFuncK.ComposeK
import Derived.Shelf.SlSortFuncK.SiftDownK
import Derived.Shelf.SlSortFuncK.HeapSortK
import Derived.Shelf.SlSortFuncK.PartialInsertionK
import Derived.Shelf.SlSortFuncK.LotDK
import Derived.Shelf.SlSortFuncK.PivotK
import Derived.Shelf.SlSortFuncK.PartitionK
import Derived.Shelf.SlSortFunc.SiftDown
import Derived.Shelf.SlSortFunc.HeapSort
import Derived.Shelf.SlSortFunc.PartialInsertion
import Derived.Shelf.SlSortFuncK.PdqK
import Derived.Shelf.SlSortFuncK.WholeK
import Derived.Test.YtfaokggblllcmaaProg
set_option maxRecDepth 100000
namespace Go.Proofs
open Go.Shelf
def Try.lays128_ren : Go.Shelf.Ren := ⟨fun | 128 => 40 | n => n, fun | 51 => 110 | 3 => 3 | 4 => 4 | 46 => 92 | 5 => 5 | 9 => 9 | n => n, fun | n => n⟩
theorem Try.lays128 : Go.Proofs.Lays.n128 Try.prog Try.lays128_ren := {
  mixed := by kernel_rfl
  f128 := Try.func40.trans (congrArg some (by kernel_rfl))
  t3 := Try.underlying3
  a3 := Try.isAgg3
  z3 := Try.sizeOf3
  v3 := Try.zeroValue3
  t4 := Try.underlying4
  a4 := Try.isAgg4
  z4 := Try.sizeOf4
  v4 := Try.zeroValue4
  t5 := Try.underlying5
  a5 := Try.isAgg5
  z5 := Try.sizeOf5
  v5 := Try.zeroValue5
  t9 := Try.underlying9
  a9 := Try.isAgg9
  z9 := Try.sizeOf9
  v9 := Try.zeroValue9
  t46 := Try.underlying92
  a46 := Try.isAgg92
  z46 := Try.sizeOf92
  v46 := Try.zeroValue92
  t51 := Try.underlying110
  a51 := Try.isAgg110
  z51 := Try.sizeOf110
  v51 := Try.zeroValue110 }
/-- bits.Len32: "Len32 returns the minimum number of bits required to represent x; the result is 0 for x == 0.": IT RETURNS 'Lib.bitLen x'; the world is as it was. ('h0', 'h1': x is a uint32.) (LAID: no walk: one application.) -/
theorem Try.bits_Len32 (x : Int) (w : World) (h0 : 0 ≤ x) (h1 : x ≤ 4294967295) :
    Calls Try.prog 40 #[.int .u32 x] w fun e w' => e = .returned (.int .i64 (Lib.bitLen x.toNat)) ∧ w' = w := Any.bits_Len32 Try.lays128 x w h0 h1
def Try.lays125_ren : Go.Shelf.Ren := ⟨fun | 125 => 24 | 128 => 40 | 129 => 41 | n => n, fun | 46 => 92 | 3 => 3 | 51 => 110 | 53 => 112 | 4 => 4 | 5 => 5 | 9 => 9 | n => n, fun | n => n⟩
theorem Try.lays125 : Go.Proofs.Lays.n125 Try.prog Try.lays125_ren := {
  mixed := by kernel_rfl
  f125 := Try.func24.trans (congrArg some (by kernel_rfl))
  f128 := Try.func40.trans (congrArg some (by kernel_rfl))
  f129 := Try.func41.trans (congrArg some (by kernel_rfl))
  t3 := Try.underlying3
  a3 := Try.isAgg3
  z3 := Try.sizeOf3
  v3 := Try.zeroValue3
  t4 := Try.underlying4
  a4 := Try.isAgg4
  z4 := Try.sizeOf4
  v4 := Try.zeroValue4
  t5 := Try.underlying5
  a5 := Try.isAgg5
  z5 := Try.sizeOf5
  v5 := Try.zeroValue5
  t9 := Try.underlying9
  a9 := Try.isAgg9
  z9 := Try.sizeOf9
  v9 := Try.zeroValue9
  t46 := Try.underlying92
  a46 := Try.isAgg92
  z46 := Try.sizeOf92
  v46 := Try.zeroValue92
  t51 := Try.underlying110
  a51 := Try.isAgg110
  z51 := Try.sizeOf110
  v51 := Try.zeroValue110
  t53 := Try.underlying112
  a53 := Try.isAgg112
  z53 := Try.sizeOf112
  v53 := Try.zeroValue112 }
/-- bits.Len: "Len returns the minimum number of bits required to represent x; the result is 0 for x == 0.": IT RETURNS 'Lib.bitLen x'; the world is as it was. (A uint has 64 bits in the model.) ITS CALLEE bits.Len64 IS MET BY ITS OWN CONTRACT OFF THE SHELF (lay that first). (LAID: no walk: one application.) -/
theorem Try.bits_Len (x : Int) (w : World) (h0 : 0 ≤ x) (h1 : x ≤ 18446744073709551615) :
    Calls Try.prog 24 #[.int .u64 x] w fun e w' => e = .returned (.int .i64 (Lib.bitLen x.toNat)) ∧ w' = w := Any.bits_Len Try.lays125 x w h0 h1
def Try.lays129_ren : Go.Shelf.Ren := ⟨fun | 129 => 41 | n => n, fun | 53 => 112 | 3 => 3 | 4 => 4 | 46 => 92 | 5 => 5 | 9 => 9 | n => n, fun | n => n⟩
theorem Try.lays129 : Go.Proofs.Lays.n129 Try.prog Try.lays129_ren := {
  mixed := by kernel_rfl
  f129 := Try.func41.trans (congrArg some (by kernel_rfl))
  t3 := Try.underlying3
  a3 := Try.isAgg3
  z3 := Try.sizeOf3
  v3 := Try.zeroValue3
  t4 := Try.underlying4
  a4 := Try.isAgg4
  z4 := Try.sizeOf4
  v4 := Try.zeroValue4
  t5 := Try.underlying5
  a5 := Try.isAgg5
  z5 := Try.sizeOf5
  v5 := Try.zeroValue5
  t9 := Try.underlying9
  a9 := Try.isAgg9
  z9 := Try.sizeOf9
  v9 := Try.zeroValue9
  t46 := Try.underlying92
  a46 := Try.isAgg92
  z46 := Try.sizeOf92
  v46 := Try.zeroValue92
  t53 := Try.underlying112
  a53 := Try.isAgg112
  z53 := Try.sizeOf112
  v53 := Try.zeroValue112 }
/-- bits.Len64: "Len64 returns the minimum number of bits required to represent x; the result is 0 for x == 0.": IT RETURNS 'Lib.bitLen x'; the world is as it was. ('h0', 'h1': x is a uint64.) (LAID: no walk: one application.) -/
theorem Try.bits_Len64 (x : Int) (w : World) (h0 : 0 ≤ x) (h1 : x ≤ 18446744073709551615) :
    Calls Try.prog 41 #[.int .u64 x] w fun e w' => e = .returned (.int .i64 (Lib.bitLen x.toNat)) ∧ w' = w := Any.bits_Len64 Try.lays129 x w h0 h1
def Try.lays190_ren : Go.Shelf.Ren := ⟨fun | 190 => 15 | 125 => 24 | 258 => 23 | 128 => 40 | 129 => 41 | 302 => 31 | 303 => 32 | 304 => 33 | 305 => 34 | 306 => 35 | 307 => 36 | 308 => 37 | 309 => 38 | 310 => 39 | 333 => 47 | 329 => 48 | 330 => 49 | 334 => 50 | 335 => 51 | 336 => 52 | 344 => 70 | n => n, fun | 31 => 33 | 9 => 9 | 3 => 3 | 46 => 92 | 0 => 0 | 51 => 110 | 53 => 112 | 4 => 4 | 183 => 102 | 182 => 101 | 131 => 107 | 5 => 5 | 218 => 125 | 222 => 129 | 228 => 142 | 229 => 143 | n => n, fun | n => n⟩
theorem Try.lays190 : Go.Proofs.Lays.n190 Try.prog Try.lays190_ren := {
  mixed := by kernel_rfl
  f125 := Try.func24.trans (congrArg some (by kernel_rfl))
  f128 := Try.func40.trans (congrArg some (by kernel_rfl))
  f129 := Try.func41.trans (congrArg some (by kernel_rfl))
  f190 := Try.func15.trans (congrArg some (by kernel_rfl))
  f258 := Try.func23.trans (congrArg some (by kernel_rfl))
  f302 := Try.func31.trans (congrArg some (by kernel_rfl))
  f303 := Try.func32.trans (congrArg some (by kernel_rfl))
  f304 := Try.func33.trans (congrArg some (by kernel_rfl))
  f305 := Try.func34.trans (congrArg some (by kernel_rfl))
  f306 := Try.func35.trans (congrArg some (by kernel_rfl))
  f307 := Try.func36.trans (congrArg some (by kernel_rfl))
  f308 := Try.func37.trans (congrArg some (by kernel_rfl))
  f309 := Try.func38.trans (congrArg some (by kernel_rfl))
  f310 := Try.func39.trans (congrArg some (by kernel_rfl))
  f329 := Try.func48.trans (congrArg some (by kernel_rfl))
  f330 := Try.func49.trans (congrArg some (by kernel_rfl))
  f333 := Try.func47.trans (congrArg some (by kernel_rfl))
  f334 := Try.func50.trans (congrArg some (by kernel_rfl))
  f335 := Try.func51.trans (congrArg some (by kernel_rfl))
  f336 := Try.func52.trans (congrArg some (by kernel_rfl))
  f344 := Try.func70.trans (congrArg some (by kernel_rfl))
  t0 := Try.underlying0
  a0 := Try.isAgg0
  z0 := Try.sizeOf0
  v0 := Try.zeroValue0
  t3 := Try.underlying3
  a3 := Try.isAgg3
  z3 := Try.sizeOf3
  v3 := Try.zeroValue3
  t4 := Try.underlying4
  a4 := Try.isAgg4
  z4 := Try.sizeOf4
  v4 := Try.zeroValue4
  t5 := Try.underlying5
  a5 := Try.isAgg5
  z5 := Try.sizeOf5
  v5 := Try.zeroValue5
  t9 := Try.underlying9
  a9 := Try.isAgg9
  z9 := Try.sizeOf9
  v9 := Try.zeroValue9
  t31 := Try.underlying33
  a31 := Try.isAgg33
  z31 := Try.sizeOf33
  v31 := Try.zeroValue33
  t46 := Try.underlying92
  a46 := Try.isAgg92
  z46 := Try.sizeOf92
  v46 := Try.zeroValue92
  t51 := Try.underlying110
  a51 := Try.isAgg110
  z51 := Try.sizeOf110
  v51 := Try.zeroValue110
  t53 := Try.underlying112
  a53 := Try.isAgg112
  z53 := Try.sizeOf112
  v53 := Try.zeroValue112
  t131 := Try.underlying107
  a131 := Try.isAgg107
  z131 := Try.sizeOf107
  v131 := Try.zeroValue107
  t182 := Try.underlying101
  a182 := Try.isAgg101
  z182 := Try.sizeOf101
  v182 := Try.zeroValue101
  t183 := Try.underlying102
  a183 := Try.isAgg102
  z183 := Try.sizeOf102
  v183 := Try.zeroValue102
  t218 := Try.underlying125
  a218 := Try.isAgg125
  z218 := Try.sizeOf125
  v218 := Try.zeroValue125
  t222 := Try.underlying129
  a222 := Try.isAgg129
  z222 := Try.sizeOf129
  v222 := Try.zeroValue129
  t228 := Try.underlying142
  a228 := Try.isAgg142
  z228 := Try.sizeOf142
  v228 := Try.zeroValue142
  t229 := Try.underlying143
  a229 := Try.isAgg143
  z229 := Try.sizeOf143
  v229 := Try.zeroValue143 }
open Go.Sort Go.RowKit in
theorem Try.slices_Sort_string (blk off cap : Nat) (ss : List (List UInt8)) (w : World) (hH : Holds encStr w blk off ss.toArray) (hblk : blk < w.heap.size) (hsz : ss.length < 4611686018427387904) :
    Calls Try.prog 15 #[.slice (some ⟨blk, off, none⟩) ss.length cap] w fun e w' =>
      e = .returned (.tuple #[]) ∧ ∃ n os, w' = grow (putRow encStr (Sort.ahead w n) blk off (ss.mergeSort fun x y => decide (x ≤ y)).toArray) os := Any.slices_Sort_string Try.lays190 blk off cap ss w hH hblk hsz
def Try.lays192_ren : Go.Shelf.Ren := ⟨fun | 192 => 16 | 190 => 15 | 125 => 24 | 258 => 23 | 128 => 40 | 129 => 41 | 302 => 31 | 303 => 32 | 304 => 33 | 305 => 34 | 306 => 35 | 307 => 36 | 308 => 37 | 309 => 38 | 310 => 39 | 333 => 47 | 329 => 48 | 330 => 49 | 334 => 50 | 335 => 51 | 336 => 52 | 344 => 70 | n => n, fun | 31 => 33 | 0 => 0 | 9 => 9 | 3 => 3 | 46 => 92 | 51 => 110 | 53 => 112 | 4 => 4 | 183 => 102 | 182 => 101 | 131 => 107 | 5 => 5 | 218 => 125 | 222 => 129 | 228 => 142 | 229 => 143 | n => n, fun | n => n⟩
theorem Try.lays192 : Go.Proofs.Lays.n192 Try.prog Try.lays192_ren := {
  mixed := by kernel_rfl
  f125 := Try.func24.trans (congrArg some (by kernel_rfl))
  f128 := Try.func40.trans (congrArg some (by kernel_rfl))
  f129 := Try.func41.trans (congrArg some (by kernel_rfl))
  f190 := Try.func15.trans (congrArg some (by kernel_rfl))
  f192 := Try.func16.trans (congrArg some (by kernel_rfl))
  f258 := Try.func23.trans (congrArg some (by kernel_rfl))
  f302 := Try.func31.trans (congrArg some (by kernel_rfl))
  f303 := Try.func32.trans (congrArg some (by kernel_rfl))
  f304 := Try.func33.trans (congrArg some (by kernel_rfl))
  f305 := Try.func34.trans (congrArg some (by kernel_rfl))
  f306 := Try.func35.trans (congrArg some (by kernel_rfl))
  f307 := Try.func36.trans (congrArg some (by kernel_rfl))
  f308 := Try.func37.trans (congrArg some (by kernel_rfl))
  f309 := Try.func38.trans (congrArg some (by kernel_rfl))
  f310 := Try.func39.trans (congrArg some (by kernel_rfl))
  f329 := Try.func48.trans (congrArg some (by kernel_rfl))
  f330 := Try.func49.trans (congrArg some (by kernel_rfl))
  f333 := Try.func47.trans (congrArg some (by kernel_rfl))
  f334 := Try.func50.trans (congrArg some (by kernel_rfl))
  f335 := Try.func51.trans (congrArg some (by kernel_rfl))
  f336 := Try.func52.trans (congrArg some (by kernel_rfl))
  f344 := Try.func70.trans (congrArg some (by kernel_rfl))
  t0 := Try.underlying0
  a0 := Try.isAgg0
  z0 := Try.sizeOf0
  v0 := Try.zeroValue0
  t3 := Try.underlying3
  a3 := Try.isAgg3
  z3 := Try.sizeOf3
  v3 := Try.zeroValue3
  t4 := Try.underlying4
  a4 := Try.isAgg4
  z4 := Try.sizeOf4
  v4 := Try.zeroValue4
  t5 := Try.underlying5
  a5 := Try.isAgg5
  z5 := Try.sizeOf5
  v5 := Try.zeroValue5
  t9 := Try.underlying9
  a9 := Try.isAgg9
  z9 := Try.sizeOf9
  v9 := Try.zeroValue9
  t31 := Try.underlying33
  a31 := Try.isAgg33
  z31 := Try.sizeOf33
  v31 := Try.zeroValue33
  t46 := Try.underlying92
  a46 := Try.isAgg92
  z46 := Try.sizeOf92
  v46 := Try.zeroValue92
  t51 := Try.underlying110
  a51 := Try.isAgg110
  z51 := Try.sizeOf110
  v51 := Try.zeroValue110
  t53 := Try.underlying112
  a53 := Try.isAgg112
  z53 := Try.sizeOf112
  v53 := Try.zeroValue112
  t131 := Try.underlying107
  a131 := Try.isAgg107
  z131 := Try.sizeOf107
  v131 := Try.zeroValue107
  t182 := Try.underlying101
  a182 := Try.isAgg101
  z182 := Try.sizeOf101
  v182 := Try.zeroValue101
  t183 := Try.underlying102
  a183 := Try.isAgg102
  z183 := Try.sizeOf102
  v183 := Try.zeroValue102
  t218 := Try.underlying125
  a218 := Try.isAgg125
  z218 := Try.sizeOf125
  v218 := Try.zeroValue125
  t222 := Try.underlying129
  a222 := Try.isAgg129
  z222 := Try.sizeOf129
  v222 := Try.zeroValue129
  t228 := Try.underlying142
  a228 := Try.isAgg142
  z228 := Try.sizeOf142
  v228 := Try.zeroValue142
  t229 := Try.underlying143
  a229 := Try.isAgg143
  z229 := Try.sizeOf143
  v229 := Try.zeroValue143 }
open Go.Sort Go.RowKit in
theorem Try.sort_Strings (blk off cap : Nat) (ss : List (List UInt8)) (w : World) (hH : Holds encStr w blk off ss.toArray) (hblk : blk < w.heap.size) (hsz : ss.length < 4611686018427387904) :
    Calls Try.prog 16 #[.slice (some ⟨blk, off, none⟩) ss.length cap] w fun e w' =>
      e = .returned (.tuple #[]) ∧ ∃ n os, w' = grow (putRow encStr (Sort.ahead w n) blk off (ss.mergeSort fun x y => decide (x ≤ y)).toArray) os := Any.sort_Strings Try.lays192 blk off cap ss w hH hblk hsz
def Try.laysGg26_ren : Go.Shelf.Ren := ⟨fun | 26 => 62 | n => n, fun | 44 => 123 | 3 => 3 | 0 => 0 | 4 => 4 | 26 => 98 | 37 => 118 | n => n, fun | n => n⟩
theorem Try.laysGg26 : Go.Proofs.LaysGg.n26 Try.prog Try.laysGg26_ren := {
  mixed := by kernel_rfl
  f26 := Try.func62.trans (congrArg some (by kernel_rfl))
  t0 := Try.underlying0
  a0 := Try.isAgg0
  z0 := Try.sizeOf0
  v0 := Try.zeroValue0
  i0 := by kernel_rfl
  t3 := Try.underlying3
  a3 := Try.isAgg3
  z3 := Try.sizeOf3
  v3 := Try.zeroValue3
  i3 := by kernel_rfl
  t4 := Try.underlying4
  a4 := Try.isAgg4
  z4 := Try.sizeOf4
  v4 := Try.zeroValue4
  i4 := by kernel_rfl
  t26 := Try.underlying98
  a26 := Try.isAgg98
  z26 := Try.sizeOf98
  v26 := Try.zeroValue98
  i26 := by kernel_rfl
  t37 := Try.underlying118
  a37 := Try.isAgg118
  z37 := Try.sizeOf118
  v37 := Try.zeroValue118
  i37 := by kernel_rfl
  t44 := Try.underlying123
  a44 := Try.isAgg123
  z44 := Try.sizeOf123
  v44 := Try.zeroValue123
  i44 := by kernel_rfl }
open Go.RowKit Go.Lib Go.Sort in
theorem Try.insertionSort_func_one {α : Type} [Inhabited α] (enc : α → Value) (lt : α → α → Bool) (g : Nat) (lb : Array Value) (sf : Nat) (sb : Array Value) (blk off a b : Nat) (d : Array α) (w : World) (eg : ∀ args w, (callFunc g args).run Try.prog w = .ok (.enter g args) w) (hless : LessReads Try.prog g lb enc lt blk off d.size w) (hswap : SwapSwaps Try.prog sf sb enc blk off d.size) (hH : Holds enc w blk off d) (hblk : blk < w.heap.size) (hab : a ≤ b) (hb : b ≤ d.size) (hsz : d.size < 4611686018427387904) :
    Calls Try.prog 62 #[.agg #[.func (.func g) #[] lb, .func (.func sf) #[] sb], .int .i64 a, .int .i64 b] w fun e w' =>
      e = .returned (.tuple #[]) ∧ ∃ n, w' = putRow enc (Sort.ahead (w.alloc (.cells #[.func (.func g) #[] lb, .func (.func sf) #[] sb] 123)) n) blk off (Sort.insertionSort lt d a b) := Any.insertionSort_func_one Try.laysGg26 enc lt g lb sf sb blk off a b d w eg hless hswap hH hblk hab hb hsz
def Try.laysGg14_ren : Go.Shelf.Ren := ⟨fun | 14 => 45 | 26 => 62 | 27 => 63 | 28 => 64 | 29 => 65 | 30 => 66 | 31 => 67 | 32 => 68 | 33 => 69 | 34 => 71 | 35 => 72 | 36 => 73 | 37 => 74 | 38 => 75 | 13 => 24 | 39 => 76 | 24 => 40 | 25 => 41 | n => n, fun | 44 => 123 | 3 => 3 | 0 => 0 | 4 => 4 | 54 => 137 | 53 => 136 | 26 => 98 | 58 => 107 | 37 => 118 | 60 => 145 | 41 => 92 | 51 => 112 | 64 => 129 | 66 => 148 | 67 => 143 | 49 => 110 | 5 => 5 | 9 => 9 | n => n, fun | n => n⟩
theorem Try.laysGg14 : Go.Proofs.LaysGg.n14 Try.prog Try.laysGg14_ren := {
  mixed := by kernel_rfl
  f13 := Try.func24.trans (congrArg some (by kernel_rfl))
  f14 := Try.func45.trans (congrArg some (by kernel_rfl))
  f24 := Try.func40.trans (congrArg some (by kernel_rfl))
  f25 := Try.func41.trans (congrArg some (by kernel_rfl))
  f26 := Try.func62.trans (congrArg some (by kernel_rfl))
  f27 := Try.func63.trans (congrArg some (by kernel_rfl))
  f28 := Try.func64.trans (congrArg some (by kernel_rfl))
  f29 := Try.func65.trans (congrArg some (by kernel_rfl))
  f30 := Try.func66.trans (congrArg some (by kernel_rfl))
  f31 := Try.func67.trans (congrArg some (by kernel_rfl))
  f32 := Try.func68.trans (congrArg some (by kernel_rfl))
  f33 := Try.func69.trans (congrArg some (by kernel_rfl))
  f34 := Try.func71.trans (congrArg some (by kernel_rfl))
  f35 := Try.func72.trans (congrArg some (by kernel_rfl))
  f36 := Try.func73.trans (congrArg some (by kernel_rfl))
  f37 := Try.func74.trans (congrArg some (by kernel_rfl))
  f38 := Try.func75.trans (congrArg some (by kernel_rfl))
  f39 := Try.func76.trans (congrArg some (by kernel_rfl))
  t0 := Try.underlying0
  a0 := Try.isAgg0
  z0 := Try.sizeOf0
  v0 := Try.zeroValue0
  i0 := by kernel_rfl
  t3 := Try.underlying3
  a3 := Try.isAgg3
  z3 := Try.sizeOf3
  v3 := Try.zeroValue3
  i3 := by kernel_rfl
  t4 := Try.underlying4
  a4 := Try.isAgg4
  z4 := Try.sizeOf4
  v4 := Try.zeroValue4
  i4 := by kernel_rfl
  t5 := Try.underlying5
  a5 := Try.isAgg5
  z5 := Try.sizeOf5
  v5 := Try.zeroValue5
  i5 := by kernel_rfl
  t9 := Try.underlying9
  a9 := Try.isAgg9
  z9 := Try.sizeOf9
  v9 := Try.zeroValue9
  i9 := by kernel_rfl
  t26 := Try.underlying98
  a26 := Try.isAgg98
  z26 := Try.sizeOf98
  v26 := Try.zeroValue98
  i26 := by kernel_rfl
  t37 := Try.underlying118
  a37 := Try.isAgg118
  z37 := Try.sizeOf118
  v37 := Try.zeroValue118
  i37 := by kernel_rfl
  t41 := Try.underlying92
  a41 := Try.isAgg92
  z41 := Try.sizeOf92
  v41 := Try.zeroValue92
  i41 := by kernel_rfl
  t44 := Try.underlying123
  a44 := Try.isAgg123
  z44 := Try.sizeOf123
  v44 := Try.zeroValue123
  i44 := by kernel_rfl
  t49 := Try.underlying110
  a49 := Try.isAgg110
  z49 := Try.sizeOf110
  v49 := Try.zeroValue110
  i49 := by kernel_rfl
  t51 := Try.underlying112
  a51 := Try.isAgg112
  z51 := Try.sizeOf112
  v51 := Try.zeroValue112
  i51 := by kernel_rfl
  t53 := Try.underlying136
  a53 := Try.isAgg136
  z53 := Try.sizeOf136
  v53 := Try.zeroValue136
  i53 := by kernel_rfl
  t54 := Try.underlying137
  a54 := Try.isAgg137
  z54 := Try.sizeOf137
  v54 := Try.zeroValue137
  i54 := by kernel_rfl
  t58 := Try.underlying107
  a58 := Try.isAgg107
  z58 := Try.sizeOf107
  v58 := Try.zeroValue107
  i58 := by kernel_rfl
  t60 := Try.underlying145
  a60 := Try.isAgg145
  z60 := Try.sizeOf145
  v60 := Try.zeroValue145
  i60 := by kernel_rfl
  t64 := Try.underlying129
  a64 := Try.isAgg129
  z64 := Try.sizeOf129
  v64 := Try.zeroValue129
  i64 := by kernel_rfl
  t66 := Try.underlying148
  a66 := Try.isAgg148
  z66 := Try.sizeOf148
  v66 := Try.zeroValue148
  i66 := by kernel_rfl
  t67 := Try.underlying143
  a67 := Try.isAgg143
  z67 := Try.sizeOf143
  v67 := Try.zeroValue143
  i67 := by kernel_rfl }
open Go.RowKit Go.Lib Go.Sort in
/-- sort.pdqsort_func AT A RANGE OF AT MOST 12. (LAID: no walk: one application.) -/
theorem Try.pdqsort_func_small {α : Type} [Inhabited α] (enc : α → Value) (lt : α → α → Bool) (g : Nat) (lb : Array Value) (sf : Nat) (sb : Array Value) (blk off a b : Nat) (lim : Int) (d : Array α) (w : World) (eg : ∀ args w, (callFunc g args).run Try.prog w = .ok (.enter g args) w) (hless : LessReads Try.prog g lb enc lt blk off d.size w) (hswap : SwapSwaps Try.prog sf sb enc blk off d.size) (hH : Holds enc w blk off d) (hblk : blk < w.heap.size) (hab : a ≤ b) (hb : b ≤ d.size) (hsz : d.size < 4611686018427387904) (h12 : b - a ≤ 12) :
    Calls Try.prog 45 #[.agg #[.func (.func g) #[] lb, .func (.func sf) #[] sb], .int .i64 a, .int .i64 b, .int .i64 lim] w fun e w' =>
      e = .returned (.tuple #[]) ∧ ∃ n, w' = putRow enc (Sort.ahead ((w.alloc (.cells #[.func (.func g) #[] lb, .func (.func sf) #[] sb] 123)).alloc (.cells #[.func (.func g) #[] lb, .func (.func sf) #[] sb] 123)) n) blk off (Sort.insertionSort lt d a b) := Any.pdqsort_func_small Try.laysGg14 enc lt g lb sf sb blk off a b lim d w eg hless hswap hH hblk hab hb hsz h12
def Try.laysGg6_ren : Go.Shelf.Ren := ⟨fun | 6 => 28 | 10 => 42 | 11 => 43 | 12 => 44 | 13 => 24 | 14 => 45 | 24 => 40 | 25 => 41 | 26 => 62 | 27 => 63 | 28 => 64 | 29 => 65 | 30 => 66 | 31 => 67 | 32 => 68 | 33 => 69 | 34 => 71 | 35 => 72 | 36 => 73 | 37 => 74 | 38 => 75 | 39 => 76 | n => n, fun | 20 => 20 | 26 => 98 | 35 => 116 | 0 => 0 | 37 => 118 | 3 => 3 | 41 => 92 | 44 => 123 | 49 => 110 | 51 => 112 | 4 => 4 | 54 => 137 | 53 => 136 | 58 => 107 | 5 => 5 | 9 => 9 | 60 => 145 | 64 => 129 | 66 => 148 | 67 => 143 | 17 => 17 | 32 => 113 | 33 => 114 | 82 => 163 | 12 => 12 | 75 => 156 | 76 => 157 | 77 => 158 | 78 => 159 | 79 => 160 | 80 => 161 | n => n, fun | n => n⟩
theorem Try.laysGg6 : Go.Proofs.LaysGg.n6 Try.prog Try.laysGg6_ren := {
  mixed := by kernel_rfl
  f6 := Try.func28.trans (congrArg some (by kernel_rfl))
  f10 := Try.func42.trans (congrArg some (by kernel_rfl))
  f11 := Try.func43.trans (congrArg some (by kernel_rfl))
  f12 := Try.func44.trans (congrArg some (by kernel_rfl))
  f13 := Try.func24.trans (congrArg some (by kernel_rfl))
  f14 := Try.func45.trans (congrArg some (by kernel_rfl))
  f24 := Try.func40.trans (congrArg some (by kernel_rfl))
  f25 := Try.func41.trans (congrArg some (by kernel_rfl))
  f26 := Try.func62.trans (congrArg some (by kernel_rfl))
  f27 := Try.func63.trans (congrArg some (by kernel_rfl))
  f28 := Try.func64.trans (congrArg some (by kernel_rfl))
  f29 := Try.func65.trans (congrArg some (by kernel_rfl))
  f30 := Try.func66.trans (congrArg some (by kernel_rfl))
  f31 := Try.func67.trans (congrArg some (by kernel_rfl))
  f32 := Try.func68.trans (congrArg some (by kernel_rfl))
  f33 := Try.func69.trans (congrArg some (by kernel_rfl))
  f34 := Try.func71.trans (congrArg some (by kernel_rfl))
  f35 := Try.func72.trans (congrArg some (by kernel_rfl))
  f36 := Try.func73.trans (congrArg some (by kernel_rfl))
  f37 := Try.func74.trans (congrArg some (by kernel_rfl))
  f38 := Try.func75.trans (congrArg some (by kernel_rfl))
  f39 := Try.func76.trans (congrArg some (by kernel_rfl))
  t0 := Try.underlying0
  a0 := Try.isAgg0
  z0 := Try.sizeOf0
  v0 := Try.zeroValue0
  i0 := by kernel_rfl
  t3 := Try.underlying3
  a3 := Try.isAgg3
  z3 := Try.sizeOf3
  v3 := Try.zeroValue3
  i3 := by kernel_rfl
  t4 := Try.underlying4
  a4 := Try.isAgg4
  z4 := Try.sizeOf4
  v4 := Try.zeroValue4
  i4 := by kernel_rfl
  t5 := Try.underlying5
  a5 := Try.isAgg5
  z5 := Try.sizeOf5
  v5 := Try.zeroValue5
  i5 := by kernel_rfl
  t9 := Try.underlying9
  a9 := Try.isAgg9
  z9 := Try.sizeOf9
  v9 := Try.zeroValue9
  i9 := by kernel_rfl
  t12 := Try.underlying12
  a12 := Try.isAgg12
  z12 := Try.sizeOf12
  v12 := Try.zeroValue12
  i12 := by kernel_rfl
  t17 := Try.underlying17
  a17 := Try.isAgg17
  z17 := Try.sizeOf17
  v17 := Try.zeroValue17
  i17 := by kernel_rfl
  t20 := Try.underlying20
  a20 := Try.isAgg20
  z20 := Try.sizeOf20
  v20 := Try.zeroValue20
  i20 := by kernel_rfl
  t26 := Try.underlying98
  a26 := Try.isAgg98
  z26 := Try.sizeOf98
  v26 := Try.zeroValue98
  i26 := by kernel_rfl
  t32 := Try.underlying113
  a32 := Try.isAgg113
  z32 := Try.sizeOf113
  v32 := Try.zeroValue113
  i32 := by kernel_rfl
  t33 := Try.underlying114
  a33 := Try.isAgg114
  z33 := Try.sizeOf114
  v33 := Try.zeroValue114
  i33 := by kernel_rfl
  t35 := Try.underlying116
  a35 := Try.isAgg116
  z35 := Try.sizeOf116
  v35 := Try.zeroValue116
  i35 := by kernel_rfl
  t37 := Try.underlying118
  a37 := Try.isAgg118
  z37 := Try.sizeOf118
  v37 := Try.zeroValue118
  i37 := by kernel_rfl
  t41 := Try.underlying92
  a41 := Try.isAgg92
  z41 := Try.sizeOf92
  v41 := Try.zeroValue92
  i41 := by kernel_rfl
  t44 := Try.underlying123
  a44 := Try.isAgg123
  z44 := Try.sizeOf123
  v44 := Try.zeroValue123
  i44 := by kernel_rfl
  t49 := Try.underlying110
  a49 := Try.isAgg110
  z49 := Try.sizeOf110
  v49 := Try.zeroValue110
  i49 := by kernel_rfl
  t51 := Try.underlying112
  a51 := Try.isAgg112
  z51 := Try.sizeOf112
  v51 := Try.zeroValue112
  i51 := by kernel_rfl
  t53 := Try.underlying136
  a53 := Try.isAgg136
  z53 := Try.sizeOf136
  v53 := Try.zeroValue136
  i53 := by kernel_rfl
  t54 := Try.underlying137
  a54 := Try.isAgg137
  z54 := Try.sizeOf137
  v54 := Try.zeroValue137
  i54 := by kernel_rfl
  t58 := Try.underlying107
  a58 := Try.isAgg107
  z58 := Try.sizeOf107
  v58 := Try.zeroValue107
  i58 := by kernel_rfl
  t60 := Try.underlying145
  a60 := Try.isAgg145
  z60 := Try.sizeOf145
  v60 := Try.zeroValue145
  i60 := by kernel_rfl
  t64 := Try.underlying129
  a64 := Try.isAgg129
  z64 := Try.sizeOf129
  v64 := Try.zeroValue129
  i64 := by kernel_rfl
  t66 := Try.underlying148
  a66 := Try.isAgg148
  z66 := Try.sizeOf148
  v66 := Try.zeroValue148
  i66 := by kernel_rfl
  t67 := Try.underlying143
  a67 := Try.isAgg143
  z67 := Try.sizeOf143
  v67 := Try.zeroValue143
  i67 := by kernel_rfl
  t75 := Try.underlying156
  a75 := Try.isAgg156
  z75 := Try.sizeOf156
  v75 := Try.zeroValue156
  i75 := by kernel_rfl
  t76 := Try.underlying157
  a76 := Try.isAgg157
  z76 := Try.sizeOf157
  v76 := Try.zeroValue157
  i76 := by kernel_rfl
  t77 := Try.underlying158
  a77 := Try.isAgg158
  z77 := Try.sizeOf158
  v77 := Try.zeroValue158
  i77 := by kernel_rfl
  t78 := Try.underlying159
  a78 := Try.isAgg159
  z78 := Try.sizeOf159
  v78 := Try.zeroValue159
  i78 := by kernel_rfl
  t79 := Try.underlying160
  a79 := Try.isAgg160
  z79 := Try.sizeOf160
  v79 := Try.zeroValue160
  i79 := by kernel_rfl
  t80 := Try.underlying161
  a80 := Try.isAgg161
  z80 := Try.sizeOf161
  v80 := Try.zeroValue161
  i80 := by kernel_rfl
  t82 := Try.underlying163
  a82 := Try.isAgg163
  z82 := Try.sizeOf163
  v82 := Try.zeroValue163
  i82 := by kernel_rfl }
open Go.RowKit Go.Lib Go.Sort in
theorem Try.insertionSort_func_cells {α : Type} [Inhabited α] (enc : α → List Value) (k : Nat) (hk : ∀ x, (enc x).length = k) (lt : α → α → Bool) (g : Nat) (lb : Array Value) (sf : Nat) (sb : Array Value) (blk off a b : Nat) (d : Array α) (w : World) (eg : ∀ args w, (callFunc g args).run Try.prog w = .ok (.enter g args) w) (hless : LessReadsK Try.prog g lb enc k lt blk off d.size w) (hswap : SwapSwapsK Try.prog sf sb enc k blk off d.size) (hH : HoldsK enc k w blk off d) (hblk : blk < w.heap.size) (hab : a ≤ b) (hb : b ≤ d.size) (hsz : d.size < 4611686018427387904) :
    Calls Try.prog 62 #[.agg #[.func (.func g) #[] lb, .func (.func sf) #[] sb], .int .i64 a, .int .i64 b] w fun e w' =>
      e = .returned (.tuple #[]) ∧ ∃ n, w' = putRowK enc k (Sort.ahead (w.alloc (.cells #[.func (.func g) #[] lb, .func (.func sf) #[] sb] 123)) n) blk off (Sort.insertionSort lt d a b) := Any.insertionSort_func_cells Try.laysGg26 enc k hk lt g lb sf sb blk off a b d w eg hless hswap hH hblk hab hb hsz
open Go.RowKit Go.Lib Go.Sort in
/-- sort.pdqsort_func AT A RANGE OF AT MOST 12. (LAID: no walk: one application.) -/
theorem Try.pdqsort_func_small_cells {α : Type} [Inhabited α] (enc : α → List Value) (k : Nat) (hk : ∀ x, (enc x).length = k) (lt : α → α → Bool) (g : Nat) (lb : Array Value) (sf : Nat) (sb : Array Value) (blk off a b : Nat) (lim : Int) (d : Array α) (w : World) (eg : ∀ args w, (callFunc g args).run Try.prog w = .ok (.enter g args) w) (hless : LessReadsK Try.prog g lb enc k lt blk off d.size w) (hswap : SwapSwapsK Try.prog sf sb enc k blk off d.size) (hH : HoldsK enc k w blk off d) (hblk : blk < w.heap.size) (hab : a ≤ b) (hb : b ≤ d.size) (hsz : d.size < 4611686018427387904) (h12 : b - a ≤ 12) :
    Calls Try.prog 45 #[.agg #[.func (.func g) #[] lb, .func (.func sf) #[] sb], .int .i64 a, .int .i64 b, .int .i64 lim] w fun e w' =>
      e = .returned (.tuple #[]) ∧ ∃ n, w' = putRowK enc k (Sort.ahead ((w.alloc (.cells #[.func (.func g) #[] lb, .func (.func sf) #[] sb] 123)).alloc (.cells #[.func (.func g) #[] lb, .func (.func sf) #[] sb] 123)) n) blk off (Sort.insertionSort lt d a b) := Any.pdqsort_func_small_cells Try.laysGg14 enc k hk lt g lb sf sb blk off a b lim d w eg hless hswap hH hblk hab hb hsz h12
open Go.RowKit Go.Lib Go.Sort in
theorem Try.insertionSort_func_none (lf : Fn) (la lb : Array Value) (f : Nat) (sb : Array Value) (a b : Nat) (h : b ≤ a + 1) (ha : a < 4611686018427387904) (w : World) :
    Calls Try.prog 62 #[.agg #[.func lf la lb, .func (.func f) #[] sb], .int .i64 a, .int .i64 b] w fun e w' => e = .returned (.tuple #[]) ∧ w' = w.alloc (.cells #[.func lf la lb, .func (.func f) #[] sb] 123) := Any.insertionSort_func_none Try.laysGg26 lf la lb f sb a b h ha w
open Go.RowKit Go.Lib Go.Sort in
theorem Try.pdqsort_func_tiny (lf : Fn) (la lb : Array Value) (f : Nat) (sb : Array Value) (n : Nat) (h : n ≤ 1) (lim : Int) (w : World) :
    Calls Try.prog 45 #[.agg #[.func lf la lb, .func (.func f) #[] sb], .int .i64 0, .int .i64 n, .int .i64 lim] w fun e w' => e = .returned (.tuple #[]) ∧ w' = (w.alloc (.cells #[.func lf la lb, .func (.func f) #[] sb] 123)).alloc (.cells #[.func lf la lb, .func (.func f) #[] sb] 123) := Any.pdqsort_func_tiny Try.laysGg14 lf la lb f sb n h lim w
open Go.RowKit Go.Lib Go.Sort in
/-- sort.insertionSort_func, from a world to a 'sortWorld' of it. (LAID: no walk: one application.) -/
theorem Try.insertionSort_func_w {α : Type} [Inhabited α] (enc : α → Value) (lt : α → α → Bool) (g : Nat) (lb : Array Value) (sf : Nat) (sb : Array Value) (blk off a b : Nat) (d : Array α) (w : World) (eg : ∀ args w, (callFunc g args).run Try.prog w = .ok (.enter g args) w) (hless : LessReads Try.prog g lb enc lt blk off d.size w) (hswap : SwapSwaps Try.prog sf sb enc blk off d.size) (hH : Holds enc w blk off d) (hblk : blk < w.heap.size) (hab : a ≤ b) (hb : b ≤ d.size) (hsz : d.size < 4611686018427387904) :
    Calls Try.prog 62 #[.agg #[.func (.func g) #[] lb, .func (.func sf) #[] sb], .int .i64 a, .int .i64 b] w fun e w' => e = .returned (.tuple #[]) ∧ ∃ n os, w' = sortWorld enc w blk off n (Sort.insertionSort lt d a b) os := Any.insertionSort_func_w Try.laysGg26 enc lt g lb sf sb blk off a b d w eg hless hswap hH hblk hab hb hsz
def Try.laysGg30_ren : Go.Shelf.Ren := ⟨fun | 30 => 66 | n => n, fun | 44 => 123 | 3 => 3 | 0 => 0 | 4 => 4 | 37 => 118 | 26 => 98 | n => n, fun | n => n⟩
theorem Try.laysGg30 : Go.Proofs.LaysGg.n30 Try.prog Try.laysGg30_ren := {
  mixed := by kernel_rfl
  f30 := Try.func66.trans (congrArg some (by kernel_rfl))
  t0 := Try.underlying0
  a0 := Try.isAgg0
  z0 := Try.sizeOf0
  v0 := Try.zeroValue0
  i0 := by kernel_rfl
  t3 := Try.underlying3
  a3 := Try.isAgg3
  z3 := Try.sizeOf3
  v3 := Try.zeroValue3
  i3 := by kernel_rfl
  t4 := Try.underlying4
  a4 := Try.isAgg4
  z4 := Try.sizeOf4
  v4 := Try.zeroValue4
  i4 := by kernel_rfl
  t26 := Try.underlying98
  a26 := Try.isAgg98
  z26 := Try.sizeOf98
  v26 := Try.zeroValue98
  i26 := by kernel_rfl
  t37 := Try.underlying118
  a37 := Try.isAgg118
  z37 := Try.sizeOf118
  v37 := Try.zeroValue118
  i37 := by kernel_rfl
  t44 := Try.underlying123
  a44 := Try.isAgg123
  z44 := Try.sizeOf123
  v44 := Try.zeroValue123
  i44 := by kernel_rfl }
open Go.RowKit Go.Lib Go.Sort in
theorem Try.reverseRange_func_one {α : Type} [Inhabited α] (enc : α → Value) (lf : Fn) (la lb : Array Value) (sf : Nat) (sb : Array Value) (blk off a b : Nat) (d : Array α) (w : World) (hswap : SwapSwaps Try.prog sf sb enc blk off d.size) (hH : Holds enc w blk off d) (hblk : blk < w.heap.size) (hab : a ≤ b) (hb : b ≤ d.size) (hsz : d.size < 4611686018427387904) :
    Calls Try.prog 66 #[.agg #[.func lf la lb, .func (.func sf) #[] sb], .int .i64 a, .int .i64 b] w fun e w' => e = .returned (.tuple #[]) ∧ ∃ n, w' = putRow enc (Sort.ahead (w.alloc (.cells #[.func lf la lb, .func (.func sf) #[] sb] 123)) n) blk off (reverseRange d a b) := Any.reverseRange_func_one Try.laysGg30 enc lf la lb sf sb blk off a b d w hswap hH hblk hab hb hsz
open Go.RowKit Go.Lib Go.Sort in
/-- sort.reverseRange_func, from a world to a 'sortWorld' of it. (LAID: no walk: one application.) -/
theorem Try.reverseRange_func_w {α : Type} [Inhabited α] (enc : α → Value) (lf : Fn) (la lb : Array Value) (sf : Nat) (sb : Array Value) (blk off a b : Nat) (d : Array α) (w : World) (hswap : SwapSwaps Try.prog sf sb enc blk off d.size) (hH : Holds enc w blk off d) (hblk : blk < w.heap.size) (hab : a ≤ b) (hb : b ≤ d.size) (hsz : d.size < 4611686018427387904) :
    Calls Try.prog 66 #[.agg #[.func lf la lb, .func (.func sf) #[] sb], .int .i64 a, .int .i64 b] w fun e w' => e = .returned (.tuple #[]) ∧ ∃ n os, w' = sortWorld enc w blk off n (reverseRange d a b) os := Any.reverseRange_func_w Try.laysGg30 enc lf la lb sf sb blk off a b d w hswap hH hblk hab hb hsz
def Try.laysGg39_ren : Go.Shelf.Ren := ⟨fun | 39 => 76 | n => n, fun | 44 => 123 | 3 => 3 | 64 => 129 | 0 => 0 | 26 => 98 | 4 => 4 | 37 => 118 | n => n, fun | n => n⟩
theorem Try.laysGg39 : Go.Proofs.LaysGg.n39 Try.prog Try.laysGg39_ren := {
  mixed := by kernel_rfl
  f39 := Try.func76.trans (congrArg some (by kernel_rfl))
  t0 := Try.underlying0
  a0 := Try.isAgg0
  z0 := Try.sizeOf0
  v0 := Try.zeroValue0
  i0 := by kernel_rfl
  t3 := Try.underlying3
  a3 := Try.isAgg3
  z3 := Try.sizeOf3
  v3 := Try.zeroValue3
  i3 := by kernel_rfl
  t4 := Try.underlying4
  a4 := Try.isAgg4
  z4 := Try.sizeOf4
  v4 := Try.zeroValue4
  i4 := by kernel_rfl
  t26 := Try.underlying98
  a26 := Try.isAgg98
  z26 := Try.sizeOf98
  v26 := Try.zeroValue98
  i26 := by kernel_rfl
  t37 := Try.underlying118
  a37 := Try.isAgg118
  z37 := Try.sizeOf118
  v37 := Try.zeroValue118
  i37 := by kernel_rfl
  t44 := Try.underlying123
  a44 := Try.isAgg123
  z44 := Try.sizeOf123
  v44 := Try.zeroValue123
  i44 := by kernel_rfl
  t64 := Try.underlying129
  a64 := Try.isAgg129
  z64 := Try.sizeOf129
  v64 := Try.zeroValue129
  i64 := by kernel_rfl }
open Go.RowKit Go.Lib Go.Sort in
theorem Try.order2_func {α : Type} [Inhabited α] (enc : α → Value) (lt : α → α → Bool) (g : Nat) (lb : Array Value) (sfn : Fn) (sa sb : Array Value) (blk off : Nat) (w0 W : World) (d : Array α) (a b cb co s : Nat) (eg : ∀ args w, (callFunc g args).run Try.prog w = .ok (.enter g args) w) (hL : LessReads Try.prog g lb enc lt blk off d.size w0) (hW : SW enc w0 blk off d W) (ha : a < d.size) (hb : b < d.size) (hS : Holds (Value.int .i64) W cb co (one s)) (hcb : cb < W.heap.size) (hs : s < 4611686018427387904) :
    Calls Try.prog 76 #[.agg #[.func (.func g) #[] lb, .func sfn sa sb], .int .i64 a, .int .i64 b, .pointer (some ⟨cb, co, none⟩)] W fun e w' =>
      e = .returned (.tuple #[.int .i64 (order2 lt d a b s).1, .int .i64 (order2 lt d a b s).2.1]) ∧ ∃ n os, w' = sortWorld (Value.int .i64) W cb co n (one (order2 lt d a b s).2.2) os := Any.order2_func Try.laysGg39 enc lt g lb sfn sa sb blk off w0 W d a b cb co s eg hL hW ha hb hS hcb hs
def Try.laysGg38_ren : Go.Shelf.Ren := ⟨fun | 38 => 75 | 39 => 76 | n => n, fun | 44 => 123 | 3 => 3 | 64 => 129 | 0 => 0 | 67 => 143 | 26 => 98 | 4 => 4 | 37 => 118 | n => n, fun | n => n⟩
theorem Try.laysGg38 : Go.Proofs.LaysGg.n38 Try.prog Try.laysGg38_ren := {
  mixed := by kernel_rfl
  f38 := Try.func75.trans (congrArg some (by kernel_rfl))
  f39 := Try.func76.trans (congrArg some (by kernel_rfl))
  t0 := Try.underlying0
  a0 := Try.isAgg0
  z0 := Try.sizeOf0
  v0 := Try.zeroValue0
  i0 := by kernel_rfl
  t3 := Try.underlying3
  a3 := Try.isAgg3
  z3 := Try.sizeOf3
  v3 := Try.zeroValue3
  i3 := by kernel_rfl
  t4 := Try.underlying4
  a4 := Try.isAgg4
  z4 := Try.sizeOf4
  v4 := Try.zeroValue4
  i4 := by kernel_rfl
  t26 := Try.underlying98
  a26 := Try.isAgg98
  z26 := Try.sizeOf98
  v26 := Try.zeroValue98
  i26 := by kernel_rfl
  t37 := Try.underlying118
  a37 := Try.isAgg118
  z37 := Try.sizeOf118
  v37 := Try.zeroValue118
  i37 := by kernel_rfl
  t44 := Try.underlying123
  a44 := Try.isAgg123
  z44 := Try.sizeOf123
  v44 := Try.zeroValue123
  i44 := by kernel_rfl
  t64 := Try.underlying129
  a64 := Try.isAgg129
  z64 := Try.sizeOf129
  v64 := Try.zeroValue129
  i64 := by kernel_rfl
  t67 := Try.underlying143
  a67 := Try.isAgg143
  z67 := Try.sizeOf143
  v67 := Try.zeroValue143
  i67 := by kernel_rfl }
open Go.RowKit Go.Lib Go.Sort in
theorem Try.median_func {α : Type} [Inhabited α] (enc : α → Value) (lt : α → α → Bool) (g : Nat) (lb : Array Value) (sfn : Fn) (sa sb : Array Value) (blk off : Nat) (w0 W : World) (d : Array α) (a b c cb co s : Nat) (eg : ∀ args w, (callFunc g args).run Try.prog w = .ok (.enter g args) w) (hL : LessReads Try.prog g lb enc lt blk off d.size w0) (hW : SW enc w0 blk off d W) (ha : a < d.size) (hb : b < d.size) (hc : c < d.size) (hS : Holds (Value.int .i64) W cb co (one s)) (hcb0 : w0.heap.size ≤ cb) (hcb : cb < W.heap.size) (hs : s + 3 < 4611686018427387904) :
    Calls Try.prog 75 #[.agg #[.func (.func g) #[] lb, .func sfn sa sb], .int .i64 a, .int .i64 b, .int .i64 c, .pointer (some ⟨cb, co, none⟩)] W fun e w' =>
      e = .returned (.int .i64 (median lt d a b c s).1) ∧ ∃ n os, w' = sortWorld (Value.int .i64) W cb co n (one (median lt d a b c s).2) os := Any.median_func Try.laysGg38 enc lt g lb sfn sa sb blk off w0 W d a b c cb co s eg hL hW ha hb hc hS hcb0 hcb hs
def Try.laysGg37_ren : Go.Shelf.Ren := ⟨fun | 37 => 74 | 38 => 75 | 39 => 76 | n => n, fun | 44 => 123 | 3 => 3 | 64 => 129 | 0 => 0 | 67 => 143 | 26 => 98 | 4 => 4 | 37 => 118 | n => n, fun | n => n⟩
theorem Try.laysGg37 : Go.Proofs.LaysGg.n37 Try.prog Try.laysGg37_ren := {
  mixed := by kernel_rfl
  f37 := Try.func74.trans (congrArg some (by kernel_rfl))
  f38 := Try.func75.trans (congrArg some (by kernel_rfl))
  f39 := Try.func76.trans (congrArg some (by kernel_rfl))
  t0 := Try.underlying0
  a0 := Try.isAgg0
  z0 := Try.sizeOf0
  v0 := Try.zeroValue0
  i0 := by kernel_rfl
  t3 := Try.underlying3
  a3 := Try.isAgg3
  z3 := Try.sizeOf3
  v3 := Try.zeroValue3
  i3 := by kernel_rfl
  t4 := Try.underlying4
  a4 := Try.isAgg4
  z4 := Try.sizeOf4
  v4 := Try.zeroValue4
  i4 := by kernel_rfl
  t26 := Try.underlying98
  a26 := Try.isAgg98
  z26 := Try.sizeOf98
  v26 := Try.zeroValue98
  i26 := by kernel_rfl
  t37 := Try.underlying118
  a37 := Try.isAgg118
  z37 := Try.sizeOf118
  v37 := Try.zeroValue118
  i37 := by kernel_rfl
  t44 := Try.underlying123
  a44 := Try.isAgg123
  z44 := Try.sizeOf123
  v44 := Try.zeroValue123
  i44 := by kernel_rfl
  t64 := Try.underlying129
  a64 := Try.isAgg129
  z64 := Try.sizeOf129
  v64 := Try.zeroValue129
  i64 := by kernel_rfl
  t67 := Try.underlying143
  a67 := Try.isAgg143
  z67 := Try.sizeOf143
  v67 := Try.zeroValue143
  i67 := by kernel_rfl }
open Go.RowKit Go.Lib Go.Sort in
theorem Try.medianAdjacent_func {α : Type} [Inhabited α] (enc : α → Value) (lt : α → α → Bool) (g : Nat) (lb : Array Value) (sfn : Fn) (sa sb : Array Value) (blk off : Nat) (w0 W : World) (d : Array α) (a cb co s : Nat) (eg : ∀ args w, (callFunc g args).run Try.prog w = .ok (.enter g args) w) (hL : LessReads Try.prog g lb enc lt blk off d.size w0) (hW : SW enc w0 blk off d W) (ha1 : 1 ≤ a) (ha2 : a + 1 < d.size) (hsz : d.size < 4611686018427387904) (hS : Holds (Value.int .i64) W cb co (one s)) (hcb0 : w0.heap.size ≤ cb) (hcb : cb < W.heap.size) (hs : s + 3 < 4611686018427387904) :
    Calls Try.prog 74 #[.agg #[.func (.func g) #[] lb, .func sfn sa sb], .int .i64 a, .pointer (some ⟨cb, co, none⟩)] W fun e w' =>
      e = .returned (.int .i64 (medianAdjacent lt d a s).1) ∧ ∃ n os, w' = sortWorld (Value.int .i64) W cb co n (one (medianAdjacent lt d a s).2) os := Any.medianAdjacent_func Try.laysGg37 enc lt g lb sfn sa sb blk off w0 W d a cb co s eg hL hW ha1 ha2 hsz hS hcb0 hcb hs
def Try.laysGg29_ren : Go.Shelf.Ren := ⟨fun | 29 => 65 | 37 => 74 | 38 => 75 | 39 => 76 | n => n, fun | 44 => 123 | 3 => 3 | 53 => 136 | 0 => 0 | 4 => 4 | 64 => 129 | 67 => 143 | 26 => 98 | 37 => 118 | n => n, fun | n => n⟩
theorem Try.laysGg29 : Go.Proofs.LaysGg.n29 Try.prog Try.laysGg29_ren := {
  mixed := by kernel_rfl
  f29 := Try.func65.trans (congrArg some (by kernel_rfl))
  f37 := Try.func74.trans (congrArg some (by kernel_rfl))
  f38 := Try.func75.trans (congrArg some (by kernel_rfl))
  f39 := Try.func76.trans (congrArg some (by kernel_rfl))
  t0 := Try.underlying0
  a0 := Try.isAgg0
  z0 := Try.sizeOf0
  v0 := Try.zeroValue0
  i0 := by kernel_rfl
  t3 := Try.underlying3
  a3 := Try.isAgg3
  z3 := Try.sizeOf3
  v3 := Try.zeroValue3
  i3 := by kernel_rfl
  t4 := Try.underlying4
  a4 := Try.isAgg4
  z4 := Try.sizeOf4
  v4 := Try.zeroValue4
  i4 := by kernel_rfl
  t26 := Try.underlying98
  a26 := Try.isAgg98
  z26 := Try.sizeOf98
  v26 := Try.zeroValue98
  i26 := by kernel_rfl
  t37 := Try.underlying118
  a37 := Try.isAgg118
  z37 := Try.sizeOf118
  v37 := Try.zeroValue118
  i37 := by kernel_rfl
  t44 := Try.underlying123
  a44 := Try.isAgg123
  z44 := Try.sizeOf123
  v44 := Try.zeroValue123
  i44 := by kernel_rfl
  t53 := Try.underlying136
  a53 := Try.isAgg136
  z53 := Try.sizeOf136
  v53 := Try.zeroValue136
  i53 := by kernel_rfl
  t64 := Try.underlying129
  a64 := Try.isAgg129
  z64 := Try.sizeOf129
  v64 := Try.zeroValue129
  i64 := by kernel_rfl
  t67 := Try.underlying143
  a67 := Try.isAgg143
  z67 := Try.sizeOf143
  v67 := Try.zeroValue143
  i67 := by kernel_rfl }
open Go.RowKit Go.Lib Go.Sort in
/-- sort.choosePivot_func: THE LIBRARY's OWN TEXT COMPUTES 'Sort.choosePivot lt d a b'; the row is not turned; W is grown. (After Derived/Sort/Walk11.lean's 'So.choosePivot_int', row for row.) (LAID: no walk: one application.) -/
theorem Try.choosePivot_func {α : Type} [Inhabited α] (enc : α → Value) (lt : α → α → Bool) (g : Nat) (lb : Array Value) (sfn : Fn) (sa sb : Array Value) (blk off a b : Nat) (W : World) (d : Array α) (eg : ∀ args w, (callFunc g args).run Try.prog w = .ok (.enter g args) w) (hless : LessReads Try.prog g lb enc lt blk off d.size W) (hH : Holds enc W blk off d) (hab : a < b) (hb : b ≤ d.size) (hsz : d.size < 4611686018427387904) :
    Calls Try.prog 65 #[.agg #[.func (.func g) #[] lb, .func sfn sa sb], .int .i64 a, .int .i64 b] W fun e w' =>
      e = .returned (.tuple #[.int .i64 (choosePivot lt d a b).1, .int .i64 (hintCode (choosePivot lt d a b).2)]) ∧ ∃ n os, w' = grow (Sort.ahead W n) os := Any.choosePivot_func Try.laysGg29 enc lt g lb sfn sa sb blk off a b W d eg hless hH hab hb hsz
def Try.laysGg32_ren : Go.Shelf.Ren := ⟨fun | 32 => 68 | n => n, fun | 44 => 123 | 3 => 3 | 0 => 0 | 37 => 118 | 4 => 4 | 26 => 98 | n => n, fun | n => n⟩
theorem Try.laysGg32 : Go.Proofs.LaysGg.n32 Try.prog Try.laysGg32_ren := {
  mixed := by kernel_rfl
  f32 := Try.func68.trans (congrArg some (by kernel_rfl))
  t0 := Try.underlying0
  a0 := Try.isAgg0
  z0 := Try.sizeOf0
  v0 := Try.zeroValue0
  i0 := by kernel_rfl
  t3 := Try.underlying3
  a3 := Try.isAgg3
  z3 := Try.sizeOf3
  v3 := Try.zeroValue3
  i3 := by kernel_rfl
  t4 := Try.underlying4
  a4 := Try.isAgg4
  z4 := Try.sizeOf4
  v4 := Try.zeroValue4
  i4 := by kernel_rfl
  t26 := Try.underlying98
  a26 := Try.isAgg98
  z26 := Try.sizeOf98
  v26 := Try.zeroValue98
  i26 := by kernel_rfl
  t37 := Try.underlying118
  a37 := Try.isAgg118
  z37 := Try.sizeOf118
  v37 := Try.zeroValue118
  i37 := by kernel_rfl
  t44 := Try.underlying123
  a44 := Try.isAgg123
  z44 := Try.sizeOf123
  v44 := Try.zeroValue123
  i44 := by kernel_rfl }
open Go.RowKit Go.Lib Go.Sort in
theorem Try.partitionEqual_func_one {α : Type} [Inhabited α] (enc : α → Value) (lt : α → α → Bool) (g : Nat) (lb : Array Value) (sf : Nat) (sb : Array Value) (blk off a b pivot : Nat) (d : Array α) (W : World) (eg : ∀ args w, (callFunc g args).run Try.prog w = .ok (.enter g args) w) (hless : LessReads Try.prog g lb enc lt blk off d.size W) (hswap : SwapSwaps Try.prog sf sb enc blk off d.size) (hH : Holds enc W blk off d) (hblk : blk < W.heap.size) (hap : a ≤ pivot) (hpb : pivot < b) (hb : b ≤ d.size) (hsz : d.size < 4611686018427387904) :
    Calls Try.prog 68 #[.agg #[.func (.func g) #[] lb, .func (.func sf) #[] sb], .int .i64 a, .int .i64 b, .int .i64 pivot] W fun e w' =>
      e = .returned (.int .i64 (Sort.partitionEqual lt d a b pivot).1) ∧ ∃ n, w' = (putRow enc (W.alloc (.cells #[.func (.func g) #[] lb, .func (.func sf) #[] sb] 123)) blk off (Sort.partitionEqual lt d a b pivot).2).drewN n := Any.partitionEqual_func_one Try.laysGg32 enc lt g lb sf sb blk off a b pivot d W eg hless hswap hH hblk hap hpb hb hsz
def Try.laysGg33_ren : Go.Shelf.Ren := ⟨fun | 33 => 69 | n => n, fun | 44 => 123 | 3 => 3 | 4 => 4 | 0 => 0 | 37 => 118 | 26 => 98 | n => n, fun | n => n⟩
theorem Try.laysGg33 : Go.Proofs.LaysGg.n33 Try.prog Try.laysGg33_ren := {
  mixed := by kernel_rfl
  f33 := Try.func69.trans (congrArg some (by kernel_rfl))
  t0 := Try.underlying0
  a0 := Try.isAgg0
  z0 := Try.sizeOf0
  v0 := Try.zeroValue0
  i0 := by kernel_rfl
  t3 := Try.underlying3
  a3 := Try.isAgg3
  z3 := Try.sizeOf3
  v3 := Try.zeroValue3
  i3 := by kernel_rfl
  t4 := Try.underlying4
  a4 := Try.isAgg4
  z4 := Try.sizeOf4
  v4 := Try.zeroValue4
  i4 := by kernel_rfl
  t26 := Try.underlying98
  a26 := Try.isAgg98
  z26 := Try.sizeOf98
  v26 := Try.zeroValue98
  i26 := by kernel_rfl
  t37 := Try.underlying118
  a37 := Try.isAgg118
  z37 := Try.sizeOf118
  v37 := Try.zeroValue118
  i37 := by kernel_rfl
  t44 := Try.underlying123
  a44 := Try.isAgg123
  z44 := Try.sizeOf123
  v44 := Try.zeroValue123
  i44 := by kernel_rfl }
open Go.RowKit Go.Lib Go.Sort in
theorem Try.partition_func_one {α : Type} [Inhabited α] (enc : α → Value) (lt : α → α → Bool) (g : Nat) (lb : Array Value) (sf : Nat) (sb : Array Value) (blk off a b pivot : Nat) (d : Array α) (W : World) (eg : ∀ args w, (callFunc g args).run Try.prog w = .ok (.enter g args) w) (hless : LessReads Try.prog g lb enc lt blk off d.size W) (hswap : SwapSwaps Try.prog sf sb enc blk off d.size) (hH : Holds enc W blk off d) (hblk : blk < W.heap.size) (hap : a ≤ pivot) (hpb : pivot < b) (hb : b ≤ d.size) (hsz : d.size < 4611686018427387904) :
    Calls Try.prog 69 #[.agg #[.func (.func g) #[] lb, .func (.func sf) #[] sb], .int .i64 a, .int .i64 b, .int .i64 pivot] W fun e w' =>
      e = .returned (.tuple #[.int .i64 (Sort.partition lt d a b pivot).1, .bool (Sort.partition lt d a b pivot).2.1]) ∧ ∃ n, w' = (putRow enc (W.alloc (.cells #[.func (.func g) #[] lb, .func (.func sf) #[] sb] 123)) blk off (Sort.partition lt d a b pivot).2.2).drewN n := Any.partition_func_one Try.laysGg33 enc lt g lb sf sb blk off a b pivot d W eg hless hswap hH hblk hap hpb hb hsz
open Go.RowKit Go.Lib Go.Sort in
/-- sort.partitionEqual_func, from a world to a 'sortWorld' of it. (LAID: no walk: one application.) -/
theorem Try.partitionEqual_func_w {α : Type} [Inhabited α] (enc : α → Value) (lt : α → α → Bool) (g : Nat) (lb : Array Value) (sf : Nat) (sb : Array Value) (blk off a b pivot : Nat) (d : Array α) (W : World) (eg : ∀ args w, (callFunc g args).run Try.prog w = .ok (.enter g args) w) (hless : LessReads Try.prog g lb enc lt blk off d.size W) (hswap : SwapSwaps Try.prog sf sb enc blk off d.size) (hH : Holds enc W blk off d) (hblk : blk < W.heap.size) (hap : a ≤ pivot) (hpb : pivot < b) (hb : b ≤ d.size) (hsz : d.size < 4611686018427387904) :
    Calls Try.prog 68 #[.agg #[.func (.func g) #[] lb, .func (.func sf) #[] sb], .int .i64 a, .int .i64 b, .int .i64 pivot] W fun e w' => e = .returned (.int .i64 (Sort.partitionEqual lt d a b pivot).1) ∧ ∃ n os, w' = sortWorld enc W blk off n (Sort.partitionEqual lt d a b pivot).2 os := Any.partitionEqual_func_w Try.laysGg32 enc lt g lb sf sb blk off a b pivot d W eg hless hswap hH hblk hap hpb hb hsz
open Go.RowKit Go.Lib Go.Sort in
/-- sort.partition_func, from a world to a 'sortWorld' of it. (LAID: no walk: one application.) -/
theorem Try.partition_func_w {α : Type} [Inhabited α] (enc : α → Value) (lt : α → α → Bool) (g : Nat) (lb : Array Value) (sf : Nat) (sb : Array Value) (blk off a b pivot : Nat) (d : Array α) (W : World) (eg : ∀ args w, (callFunc g args).run Try.prog w = .ok (.enter g args) w) (hless : LessReads Try.prog g lb enc lt blk off d.size W) (hswap : SwapSwaps Try.prog sf sb enc blk off d.size) (hH : Holds enc W blk off d) (hblk : blk < W.heap.size) (hap : a ≤ pivot) (hpb : pivot < b) (hb : b ≤ d.size) (hsz : d.size < 4611686018427387904) :
    Calls Try.prog 69 #[.agg #[.func (.func g) #[] lb, .func (.func sf) #[] sb], .int .i64 a, .int .i64 b, .int .i64 pivot] W fun e w' => e = .returned (.tuple #[.int .i64 (Sort.partition lt d a b pivot).1, .bool (Sort.partition lt d a b pivot).2.1]) ∧ ∃ n os, w' = sortWorld enc W blk off n (Sort.partition lt d a b pivot).2.2 os := Any.partition_func_w Try.laysGg33 enc lt g lb sf sb blk off a b pivot d W eg hless hswap hH hblk hap hpb hb hsz
open Go.RowKit Go.Lib Go.Sort in
theorem Try.pdqsort_func_all {α : Type} [Inhabited α] (enc : α → Value) (lt : α → α → Bool) (hO : SWO lt) (g : Nat) (lb : Array Value) (sf : Nat) (sb : Array Value) (eg : ∀ args w, (callFunc g args).run Try.prog w = .ok (.enter g args) w) :
    ∀ (N blk off a b limit : Nat) (d : Array α) (w : World), b - a < N → LessReads Try.prog g lb enc lt blk off d.size w → SwapSwaps Try.prog sf sb enc blk off d.size → Holds enc w blk off d → blk < w.heap.size → a ≤ b → b ≤ d.size → d.size < 4611686018427387904 → limit < 4611686018427387904 → Below lt a b d →
    Calls Try.prog 45 #[.agg #[.func (.func g) #[] lb, .func (.func sf) #[] sb], .int .i64 a, .int .i64 b, .int .i64 limit] w fun e w' => e = .returned (.tuple #[]) ∧ At enc w blk off (pdq lt d a b limit true true) w' := Any.pdqsort_func_all Try.laysGg14 enc lt hO g lb sf sb eg
def Try.lays109_ren : Go.Shelf.Ren := ⟨fun | 109 => 26 | n => n, fun | 31 => 33 | 9 => 9 | 3 => 3 | 0 => 0 | 4 => 4 | n => n, fun | n => n⟩
theorem Try.lays109 : Go.Proofs.Lays.n109 Try.prog Try.lays109_ren := {
  mixed := by kernel_rfl
  f109 := Try.func26.trans (congrArg some (by kernel_rfl))
  t0 := Try.underlying0
  a0 := Try.isAgg0
  z0 := Try.sizeOf0
  v0 := Try.zeroValue0
  t3 := Try.underlying3
  a3 := Try.isAgg3
  z3 := Try.sizeOf3
  v3 := Try.zeroValue3
  t4 := Try.underlying4
  a4 := Try.isAgg4
  z4 := Try.sizeOf4
  v4 := Try.zeroValue4
  t9 := Try.underlying9
  a9 := Try.isAgg9
  z9 := Try.sizeOf9
  v9 := Try.zeroValue9
  t31 := Try.underlying33
  a31 := Try.isAgg33
  z31 := Try.sizeOf33
  v31 := Try.zeroValue33 }
open Go.Lib in
/-- slices.Index at []string: "Index returns the index of the first occurrence of v in s, or -1 if not present.": IT RETURNS 'Lib.idxOfS (the elements) v'; the world is as it was. 'zs': what the cells behind the slice's address hold (its spare capacity too, if you have it); 'zs.take n': its elements. (LAID: no walk: one application.) -/
theorem Try.slices_Index_string (b off n c : Nat) (zs : List ByteArray) (x : ByteArray) (w : World) (hz : n ≤ zs.length) (hbig : n ≤ 9223372036854775807) (hc : ∀ j, j < zs.length → w.cell? ⟨b, off + j, none⟩ = some (.string (zs.getD j ByteArray.empty))) :
    Calls Try.prog 26 #[.slice (some ⟨b, off, none⟩) n c, .string x] w fun e w' => e = .returned (.int .i64 (Lib.idxOfS (zs.take n) x)) ∧ w' = w := Any.slices_Index_string Try.lays109 b off n c zs x w hz hbig hc
open Go.Lib in
/-- The same at a slice of length 0, a nil one too: no cell is known, none is asked for. (LAID: no walk: one application.) -/
theorem Try.slices_Index_string_empty (a : Option Addr) (c : Nat) (x : ByteArray) (w : World) :
    Calls Try.prog 26 #[.slice a 0 c, .string x] w fun e w' => e = .returned (.int .i64 (Lib.idxOfS [] x)) ∧ w' = w := Any.slices_Index_string_empty Try.lays109 a c x w
def Try.lays110_ren : Go.Shelf.Ren := ⟨fun | 110 => 18 | 109 => 26 | n => n, fun | 31 => 33 | 9 => 9 | 4 => 4 | 3 => 3 | 0 => 0 | n => n, fun | n => n⟩
theorem Try.lays110 : Go.Proofs.Lays.n110 Try.prog Try.lays110_ren := {
  mixed := by kernel_rfl
  f109 := Try.func26.trans (congrArg some (by kernel_rfl))
  f110 := Try.func18.trans (congrArg some (by kernel_rfl))
  t0 := Try.underlying0
  a0 := Try.isAgg0
  z0 := Try.sizeOf0
  v0 := Try.zeroValue0
  t3 := Try.underlying3
  a3 := Try.isAgg3
  z3 := Try.sizeOf3
  v3 := Try.zeroValue3
  t4 := Try.underlying4
  a4 := Try.isAgg4
  z4 := Try.sizeOf4
  v4 := Try.zeroValue4
  t9 := Try.underlying9
  a9 := Try.isAgg9
  z9 := Try.sizeOf9
  v9 := Try.zeroValue9
  t31 := Try.underlying33
  a31 := Try.isAgg33
  z31 := Try.sizeOf33
  v31 := Try.zeroValue33 }
open Go.Lib in
/-- slices.Contains at []string: "Contains reports whether v is present in s.": IT RETURNS 'Lib.containsS (the elements) v', which is true just where v is among them ('Lib.containsS_iff'); the world is as it was. ITS CALLEE slices.Index IS MET BY ITS OWN CONTRACT OFF THE SHELF (lay that first): no loop is walked here. (LAID: no walk: one application.) -/
theorem Try.slices_Contains_string (b off n c : Nat) (zs : List ByteArray) (x : ByteArray) (w : World) (hz : n ≤ zs.length) (hbig : n ≤ 9223372036854775807) (hc : ∀ j, j < zs.length → w.cell? ⟨b, off + j, none⟩ = some (.string (zs.getD j ByteArray.empty))) :
    Calls Try.prog 18 #[.slice (some ⟨b, off, none⟩) n c, .string x] w fun e w' => e = .returned (.bool (Lib.containsS (zs.take n) x)) ∧ w' = w := Any.slices_Contains_string Try.lays110 b off n c zs x w hz hbig hc
open Go.Lib in
/-- The same at a slice of length 0, a nil one too. (LAID: no walk: one application.) -/
theorem Try.slices_Contains_string_empty (a : Option Addr) (c : Nat) (x : ByteArray) (w : World) :
    Calls Try.prog 18 #[.slice a 0 c, .string x] w fun e w' => e = .returned (.bool false) ∧ w' = w := Any.slices_Contains_string_empty Try.lays110 a c x w
def Try.lays193_ren : Go.Shelf.Ren := ⟨fun | 193 => 9 | n => n, fun | 31 => 33 | 9 => 9 | 4 => 4 | 3 => 3 | 0 => 0 | n => n, fun | n => n⟩
theorem Try.lays193 : Go.Proofs.Lays.n193 Try.prog Try.lays193_ren := {
  mixed := by kernel_rfl
  f193 := Try.func9.trans (congrArg some (by kernel_rfl))
  t0 := Try.underlying0
  a0 := Try.isAgg0
  z0 := Try.sizeOf0
  v0 := Try.zeroValue0
  t3 := Try.underlying3
  a3 := Try.isAgg3
  z3 := Try.sizeOf3
  v3 := Try.zeroValue3
  t4 := Try.underlying4
  a4 := Try.isAgg4
  z4 := Try.sizeOf4
  v4 := Try.zeroValue4
  t9 := Try.underlying9
  a9 := Try.isAgg9
  z9 := Try.sizeOf9
  v9 := Try.zeroValue9
  t31 := Try.underlying33
  a31 := Try.isAgg33
  z31 := Try.sizeOf33
  v31 := Try.zeroValue33 }
open Go.RowKit Go.Lib in
/-- slices.Equal at []string: "Equal reports whether two slices are equal: the same length and all elements equal. If the lengths are different, Equal returns false. Otherwise, the elements are compared in increasing index order, and the comparison stops at the first unequal pair. Empty and nil slices are considered equal.": IT RETURNS WHETHER THE TWO LISTS OF ELEMENTS ARE ONE; the world is as it was but for the count of draws (the test 's1[i] != s2[i]' has two reads, whose order the model draws, once a round). 'xs', 'ys': what the cells behind the two addresses hold (the spare capacity too, if you have it); 'xs.take n', 'ys.take m': the elements. THE TWO SLICES MAY OVERLAP. (LAID: no walk: one application.) -/
theorem Try.slices_Equal_string (b1 o1 n c b2 o2 m d : Nat) (xs ys : List ByteArray) (w : World) (hx : n ≤ xs.length) (hy : m ≤ ys.length) (hbig : n ≤ 9223372036854775807) (hbig2 : m ≤ 9223372036854775807) (hc1 : ∀ j, j < xs.length → w.cell? ⟨b1, o1 + j, none⟩ = some (.string (xs.getD j ByteArray.empty))) (hc2 : ∀ j, j < ys.length → w.cell? ⟨b2, o2 + j, none⟩ = some (.string (ys.getD j ByteArray.empty))) :
    Calls Try.prog 9 #[.slice (some ⟨b1, o1, none⟩) n c, .slice (some ⟨b2, o2, none⟩) m d] w fun e w' => e = .returned (.bool (decide (xs.take n = ys.take m))) ∧ ∃ q, w' = w.drewN q := Any.slices_Equal_string Try.lays193 b1 o1 n c b2 o2 m d xs ys w hx hy hbig hbig2 hc1 hc2
open Go.RowKit Go.Lib in
/-- The same where the first is of length 0 (a nil one too): no cell is asked for. (LAID: no walk: one application.) -/
theorem Try.slices_Equal_string_empty (a1 a2 : Option Addr) (c m d : Nat) (w : World) (hbig2 : m ≤ 9223372036854775807) :
    Calls Try.prog 9 #[.slice a1 0 c, .slice a2 m d] w fun e w' => e = .returned (.bool (decide (m = 0))) ∧ w' = w := Any.slices_Equal_string_empty Try.lays193 a1 a2 c m d w hbig2
open Go.RowKit Go.Sort in
/-- .. and plain. (LAID: no walk: one application.) -/
theorem Try.slices_Sort_string_none (p : Option Addr) (cap : Nat) (w : World) :
    Calls Try.prog 15 #[.slice p 0 cap] w fun e w' => e = .returned (.tuple #[]) ∧ w' = w := Any.slices_Sort_string_none Try.lays190 p cap w
open Go.RowKit Go.Sort in
/-- .. and plain. (LAID: no walk: one application.) -/
theorem Try.sort_Strings_none (p : Option Addr) (cap : Nat) (w : World) :
    Calls Try.prog 16 #[.slice p 0 cap] w fun e w' => e = .returned (.tuple #[]) ∧ w' = w := Any.sort_Strings_none Try.lays192 p cap w
open Go.RowKit Go.Lib in
theorem Try.slices_Equal_string_lens (a1 a2 : Option Addr) (n c m d : Nat) (w : World) (hnm : n ≠ m) :
    Calls Try.prog 9 #[.slice a1 n c, .slice a2 m d] w fun e w' => e = .returned (.bool false) ∧ w' = w := Any.slices_Equal_string_lens Try.lays193 a1 a2 n c m d w hnm
def Try.laysGg36_ren : Go.Shelf.Ren := ⟨fun | 36 => 73 | n => n, fun | 66 => 148 | 51 => 112 | 0 => 0 | 60 => 145 | 41 => 92 | n => n, fun | n => n⟩
theorem Try.laysGg36 : Go.Proofs.LaysGg.n36 Try.prog Try.laysGg36_ren := {
  mixed := by kernel_rfl
  f36 := Try.func73.trans (congrArg some (by kernel_rfl))
  t0 := Try.underlying0
  a0 := Try.isAgg0
  z0 := Try.sizeOf0
  v0 := Try.zeroValue0
  i0 := by kernel_rfl
  t41 := Try.underlying92
  a41 := Try.isAgg92
  z41 := Try.sizeOf92
  v41 := Try.zeroValue92
  i41 := by kernel_rfl
  t51 := Try.underlying112
  a51 := Try.isAgg112
  z51 := Try.sizeOf112
  v51 := Try.zeroValue112
  i51 := by kernel_rfl
  t60 := Try.underlying145
  a60 := Try.isAgg145
  z60 := Try.sizeOf145
  v60 := Try.zeroValue145
  i60 := by kernel_rfl
  t66 := Try.underlying148
  a66 := Try.isAgg148
  z66 := Try.sizeOf148
  v66 := Try.zeroValue148
  i66 := by kernel_rfl }
open Go.RowKit Go.Lib Go.Sort in
/-- '*r ^= *r << 13; *r ^= *r >> 7; *r ^= *r << 17; return uint64(*r)': the cell holds 'xorNextN X' and that is handed back; three draws; nothing else turns. (LAID: no walk: one application.) -/
theorem Try.xorshift_Next (rb ro X : Nat) (hX : X < 18446744073709551616) (w : World) (hc : w.cell? ⟨rb, ro, none⟩ = some (.int .u64 X)) (hf : w.frozen? ⟨rb, ro, none⟩ = false) :
    Calls Try.prog 73 #[.pointer (some ⟨rb, ro, none⟩)] w fun e w' => e = .returned (.int .u64 (xorNextN X : Nat)) ∧ w' = (w.setCell ⟨rb, ro, none⟩ (.int .u64 (xorNextN X : Nat))).drewN 3 := Any.xorshift_Next Try.laysGg36 rb ro X hX w hc hf
def Try.laysGg35_ren : Go.Shelf.Ren := ⟨fun | 35 => 72 | 13 => 24 | 24 => 40 | 25 => 41 | n => n, fun | 3 => 3 | 41 => 92 | 49 => 110 | 51 => 112 | 4 => 4 | 5 => 5 | 9 => 9 | n => n, fun | n => n⟩
theorem Try.laysGg35 : Go.Proofs.LaysGg.n35 Try.prog Try.laysGg35_ren := {
  mixed := by kernel_rfl
  f13 := Try.func24.trans (congrArg some (by kernel_rfl))
  f24 := Try.func40.trans (congrArg some (by kernel_rfl))
  f25 := Try.func41.trans (congrArg some (by kernel_rfl))
  f35 := Try.func72.trans (congrArg some (by kernel_rfl))
  t3 := Try.underlying3
  a3 := Try.isAgg3
  z3 := Try.sizeOf3
  v3 := Try.zeroValue3
  i3 := by kernel_rfl
  t4 := Try.underlying4
  a4 := Try.isAgg4
  z4 := Try.sizeOf4
  v4 := Try.zeroValue4
  i4 := by kernel_rfl
  t5 := Try.underlying5
  a5 := Try.isAgg5
  z5 := Try.sizeOf5
  v5 := Try.zeroValue5
  i5 := by kernel_rfl
  t9 := Try.underlying9
  a9 := Try.isAgg9
  z9 := Try.sizeOf9
  v9 := Try.zeroValue9
  i9 := by kernel_rfl
  t41 := Try.underlying92
  a41 := Try.isAgg92
  z41 := Try.sizeOf92
  v41 := Try.zeroValue92
  i41 := by kernel_rfl
  t49 := Try.underlying110
  a49 := Try.isAgg110
  z49 := Try.sizeOf110
  v49 := Try.zeroValue110
  i49 := by kernel_rfl
  t51 := Try.underlying112
  a51 := Try.isAgg112
  z51 := Try.sizeOf112
  v51 := Try.zeroValue112
  i51 := by kernel_rfl }
open Go.RowKit Go.Lib Go.Sort in
/-- 'return 1 << bits.Len(uint(length))'. (LAID: no walk: one application.) -/
theorem Try.nextPowerOfTwo (n : Nat) (hn : n < 4611686018427387904) (w : World) :
    Calls Try.prog 72 #[.int .i64 n] w fun e w' => e = .returned (.int .u64 ((1 <<< bitsLen n : Nat) : Int)) ∧ w' = w := Any.nextPowerOfTwo Try.laysGg35 n hn w
open Go.RowKit Go.Lib Go.Sort in
/-- sort.insertionSort_func, from a world to a 'sortWorld' of it. (LAID: no walk: one application.) -/
theorem Try.insertionSort_func_cells_w {α : Type} [Inhabited α] (enc : α → List Value) (k : Nat) (hk : ∀ x, (enc x).length = k) (lt : α → α → Bool) (g : Nat) (lb : Array Value) (sf : Nat) (sb : Array Value) (blk off a b : Nat) (d : Array α) (w : World) (eg : ∀ args w, (callFunc g args).run Try.prog w = .ok (.enter g args) w) (hless : LessReadsK Try.prog g lb enc k lt blk off d.size w) (hswap : SwapSwapsK Try.prog sf sb enc k blk off d.size) (hH : HoldsK enc k w blk off d) (hblk : blk < w.heap.size) (hab : a ≤ b) (hb : b ≤ d.size) (hsz : d.size < 4611686018427387904) :
    Calls Try.prog 62 #[.agg #[.func (.func g) #[] lb, .func (.func sf) #[] sb], .int .i64 a, .int .i64 b] w fun e w' => e = .returned (.tuple #[]) ∧ ∃ n os, w' = sortWorldK enc k w blk off n (Sort.insertionSort lt d a b) os := Any.insertionSort_func_cells_w Try.laysGg26 enc k hk lt g lb sf sb blk off a b d w eg hless hswap hH hblk hab hb hsz
open Go.RowKit Go.Lib Go.Sort in
theorem Try.reverseRange_func_cells {α : Type} [Inhabited α] (enc : α → List Value) (k : Nat) (hk : ∀ x, (enc x).length = k) (lf : Fn) (la lb : Array Value) (sf : Nat) (sb : Array Value) (blk off a b : Nat) (d : Array α) (w : World) (hswap : SwapSwapsK Try.prog sf sb enc k blk off d.size) (hH : HoldsK enc k w blk off d) (hblk : blk < w.heap.size) (hab : a ≤ b) (hb : b ≤ d.size) (hsz : d.size < 4611686018427387904) :
    Calls Try.prog 66 #[.agg #[.func lf la lb, .func (.func sf) #[] sb], .int .i64 a, .int .i64 b] w fun e w' => e = .returned (.tuple #[]) ∧ ∃ n, w' = putRowK enc k (Sort.ahead (w.alloc (.cells #[.func lf la lb, .func (.func sf) #[] sb] 123)) n) blk off (reverseRange d a b) := Any.reverseRange_func_cells Try.laysGg30 enc k hk lf la lb sf sb blk off a b d w hswap hH hblk hab hb hsz
open Go.RowKit Go.Lib Go.Sort in
/-- sort.reverseRange_func, from a world to a 'sortWorld' of it. (LAID: no walk: one application.) -/
theorem Try.reverseRange_func_cells_w {α : Type} [Inhabited α] (enc : α → List Value) (k : Nat) (hk : ∀ x, (enc x).length = k) (lf : Fn) (la lb : Array Value) (sf : Nat) (sb : Array Value) (blk off a b : Nat) (d : Array α) (w : World) (hswap : SwapSwapsK Try.prog sf sb enc k blk off d.size) (hH : HoldsK enc k w blk off d) (hblk : blk < w.heap.size) (hab : a ≤ b) (hb : b ≤ d.size) (hsz : d.size < 4611686018427387904) :
    Calls Try.prog 66 #[.agg #[.func lf la lb, .func (.func sf) #[] sb], .int .i64 a, .int .i64 b] w fun e w' => e = .returned (.tuple #[]) ∧ ∃ n os, w' = sortWorldK enc k w blk off n (reverseRange d a b) os := Any.reverseRange_func_cells_w Try.laysGg30 enc k hk lf la lb sf sb blk off a b d w hswap hH hblk hab hb hsz
def Try.laysGg34_ren : Go.Shelf.Ren := ⟨fun | 34 => 71 | n => n, fun | 44 => 123 | 3 => 3 | 0 => 0 | 4 => 4 | 26 => 98 | 37 => 118 | n => n, fun | n => n⟩
theorem Try.laysGg34 : Go.Proofs.LaysGg.n34 Try.prog Try.laysGg34_ren := {
  mixed := by kernel_rfl
  f34 := Try.func71.trans (congrArg some (by kernel_rfl))
  t0 := Try.underlying0
  a0 := Try.isAgg0
  z0 := Try.sizeOf0
  v0 := Try.zeroValue0
  i0 := by kernel_rfl
  t3 := Try.underlying3
  a3 := Try.isAgg3
  z3 := Try.sizeOf3
  v3 := Try.zeroValue3
  i3 := by kernel_rfl
  t4 := Try.underlying4
  a4 := Try.isAgg4
  z4 := Try.sizeOf4
  v4 := Try.zeroValue4
  i4 := by kernel_rfl
  t26 := Try.underlying98
  a26 := Try.isAgg98
  z26 := Try.sizeOf98
  v26 := Try.zeroValue98
  i26 := by kernel_rfl
  t37 := Try.underlying118
  a37 := Try.isAgg118
  z37 := Try.sizeOf118
  v37 := Try.zeroValue118
  i37 := by kernel_rfl
  t44 := Try.underlying123
  a44 := Try.isAgg123
  z44 := Try.sizeOf123
  v44 := Try.zeroValue123
  i44 := by kernel_rfl }
open Go.RowKit Go.Lib Go.Sort in
theorem Try.siftDown_func_cells {α : Type} [Inhabited α] (enc : α → List Value) (k : Nat) (hk : ∀ x, (enc x).length = k) (lt : α → α → Bool) (g : Nat) (lb : Array Value) (sf : Nat) (sb : Array Value) (blk off lo hi first : Nat) (d : Array α) (w : World) (eg : ∀ args w, (callFunc g args).run Try.prog w = .ok (.enter g args) w) (hless : LessReadsK Try.prog g lb enc k lt blk off d.size w) (hswap : SwapSwapsK Try.prog sf sb enc k blk off d.size) (hH : HoldsK enc k w blk off d) (hblk : blk < w.heap.size) (hlo : lo ≤ hi) (hb : first + hi ≤ d.size) (hsz : d.size < 4611686018427387904) :
    Calls Try.prog 71 #[.agg #[.func (.func g) #[] lb, .func (.func sf) #[] sb], .int .i64 lo, .int .i64 hi, .int .i64 first] w fun e w' =>
      e = .returned (.tuple #[]) ∧ ∃ n, w' = putRowK enc k (Sort.ahead (w.alloc (.cells #[.func (.func g) #[] lb, .func (.func sf) #[] sb] 123)) n) blk off (siftDown lt hi first lo d) := Any.siftDown_func_cells Try.laysGg34 enc k hk lt g lb sf sb blk off lo hi first d w eg hless hswap hH hblk hlo hb hsz
open Go.RowKit Go.Lib Go.Sort in
/-- sort.siftDown_func, from a world to a 'sortWorld' of it. (LAID: no walk: one application.) -/
theorem Try.siftDown_func_cells_w {α : Type} [Inhabited α] (enc : α → List Value) (k : Nat) (hk : ∀ x, (enc x).length = k) (lt : α → α → Bool) (g : Nat) (lb : Array Value) (sf : Nat) (sb : Array Value) (blk off lo hi first : Nat) (d : Array α) (w : World) (eg : ∀ args w, (callFunc g args).run Try.prog w = .ok (.enter g args) w) (hless : LessReadsK Try.prog g lb enc k lt blk off d.size w) (hswap : SwapSwapsK Try.prog sf sb enc k blk off d.size) (hH : HoldsK enc k w blk off d) (hblk : blk < w.heap.size) (hlo : lo ≤ hi) (hb : first + hi ≤ d.size) (hsz : d.size < 4611686018427387904) :
    Calls Try.prog 71 #[.agg #[.func (.func g) #[] lb, .func (.func sf) #[] sb], .int .i64 lo, .int .i64 hi, .int .i64 first] w fun e w' => e = .returned (.tuple #[]) ∧ ∃ n os, w' = sortWorldK enc k w blk off n (siftDown lt hi first lo d) os := Any.siftDown_func_cells_w Try.laysGg34 enc k hk lt g lb sf sb blk off lo hi first d w eg hless hswap hH hblk hlo hb hsz
def Try.laysGg27_ren : Go.Shelf.Ren := ⟨fun | 27 => 63 | 34 => 71 | n => n, fun | 44 => 123 | 3 => 3 | 0 => 0 | 4 => 4 | 37 => 118 | 26 => 98 | n => n, fun | n => n⟩
theorem Try.laysGg27 : Go.Proofs.LaysGg.n27 Try.prog Try.laysGg27_ren := {
  mixed := by kernel_rfl
  f27 := Try.func63.trans (congrArg some (by kernel_rfl))
  f34 := Try.func71.trans (congrArg some (by kernel_rfl))
  t0 := Try.underlying0
  a0 := Try.isAgg0
  z0 := Try.sizeOf0
  v0 := Try.zeroValue0
  i0 := by kernel_rfl
  t3 := Try.underlying3
  a3 := Try.isAgg3
  z3 := Try.sizeOf3
  v3 := Try.zeroValue3
  i3 := by kernel_rfl
  t4 := Try.underlying4
  a4 := Try.isAgg4
  z4 := Try.sizeOf4
  v4 := Try.zeroValue4
  i4 := by kernel_rfl
  t26 := Try.underlying98
  a26 := Try.isAgg98
  z26 := Try.sizeOf98
  v26 := Try.zeroValue98
  i26 := by kernel_rfl
  t37 := Try.underlying118
  a37 := Try.isAgg118
  z37 := Try.sizeOf118
  v37 := Try.zeroValue118
  i37 := by kernel_rfl
  t44 := Try.underlying123
  a44 := Try.isAgg123
  z44 := Try.sizeOf123
  v44 := Try.zeroValue123
  i44 := by kernel_rfl }
open Go.RowKit Go.Lib Go.Sort in
theorem Try.heapSort_func_cells_w {α : Type} [Inhabited α] (enc : α → List Value) (k : Nat) (hk : ∀ x, (enc x).length = k) (lt : α → α → Bool) (g : Nat) (lb : Array Value) (sf : Nat) (sb : Array Value) (blk off a b : Nat) (d : Array α) (w : World) (eg : ∀ args w, (callFunc g args).run Try.prog w = .ok (.enter g args) w) (hless : LessReadsK Try.prog g lb enc k lt blk off d.size w) (hswap : SwapSwapsK Try.prog sf sb enc k blk off d.size) (hH : HoldsK enc k w blk off d) (hblk : blk < w.heap.size) (hab : a ≤ b) (hb : b ≤ d.size) (hsz : d.size < 4611686018427387904) :
    Calls Try.prog 63 #[.agg #[.func (.func g) #[] lb, .func (.func sf) #[] sb], .int .i64 a, .int .i64 b] w fun e w' => e = .returned (.tuple #[]) ∧ ∃ n os, w' = sortWorldK enc k w blk off n (heapSort lt d a b) os := Any.heapSort_func_cells_w Try.laysGg27 enc k hk lt g lb sf sb blk off a b d w eg hless hswap hH hblk hab hb hsz
def Try.laysGg31_ren : Go.Shelf.Ren := ⟨fun | 31 => 67 | n => n, fun | 44 => 123 | 3 => 3 | 4 => 4 | 0 => 0 | 26 => 98 | 37 => 118 | n => n, fun | n => n⟩
theorem Try.laysGg31 : Go.Proofs.LaysGg.n31 Try.prog Try.laysGg31_ren := {
  mixed := by kernel_rfl
  f31 := Try.func67.trans (congrArg some (by kernel_rfl))
  t0 := Try.underlying0
  a0 := Try.isAgg0
  z0 := Try.sizeOf0
  v0 := Try.zeroValue0
  i0 := by kernel_rfl
  t3 := Try.underlying3
  a3 := Try.isAgg3
  z3 := Try.sizeOf3
  v3 := Try.zeroValue3
  i3 := by kernel_rfl
  t4 := Try.underlying4
  a4 := Try.isAgg4
  z4 := Try.sizeOf4
  v4 := Try.zeroValue4
  i4 := by kernel_rfl
  t26 := Try.underlying98
  a26 := Try.isAgg98
  z26 := Try.sizeOf98
  v26 := Try.zeroValue98
  i26 := by kernel_rfl
  t37 := Try.underlying118
  a37 := Try.isAgg118
  z37 := Try.sizeOf118
  v37 := Try.zeroValue118
  i37 := by kernel_rfl
  t44 := Try.underlying123
  a44 := Try.isAgg123
  z44 := Try.sizeOf123
  v44 := Try.zeroValue123
  i44 := by kernel_rfl }
open Go.RowKit Go.Lib Go.Sort in
theorem Try.partialInsertionSort_func_cells {α : Type} [Inhabited α] (enc : α → List Value) (k : Nat) (hk : ∀ x, (enc x).length = k) (lt : α → α → Bool) (g : Nat) (lb : Array Value) (sf : Nat) (sb : Array Value) (blk off a b : Nat) (d : Array α) (w : World) (eg : ∀ args w, (callFunc g args).run Try.prog w = .ok (.enter g args) w) (hless : LessReadsK Try.prog g lb enc k lt blk off d.size w) (hswap : SwapSwapsK Try.prog sf sb enc k blk off d.size) (hH : HoldsK enc k w blk off d) (hblk : blk < w.heap.size) (hab : a < b) (hb : b ≤ d.size) (hsz : d.size < 4611686018427387904) :
    Calls Try.prog 67 #[.agg #[.func (.func g) #[] lb, .func (.func sf) #[] sb], .int .i64 a, .int .i64 b] w fun e w' =>
      e = .returned (.bool (Sort.partialInsertionSort lt d a b).2) ∧ ∃ n, w' = putRowK enc k (Sort.ahead (w.alloc (.cells #[.func (.func g) #[] lb, .func (.func sf) #[] sb] 123)) n) blk off (Sort.partialInsertionSort lt d a b).1 := Any.partialInsertionSort_func_cells Try.laysGg31 enc k hk lt g lb sf sb blk off a b d w eg hless hswap hH hblk hab hb hsz
open Go.RowKit Go.Lib Go.Sort in
/-- sort.partialInsertionSort_func, from a world to a 'sortWorld' of it. (LAID: no walk: one application.) -/
theorem Try.partialInsertionSort_func_cells_w {α : Type} [Inhabited α] (enc : α → List Value) (k : Nat) (hk : ∀ x, (enc x).length = k) (lt : α → α → Bool) (g : Nat) (lb : Array Value) (sf : Nat) (sb : Array Value) (blk off a b : Nat) (d : Array α) (w : World) (eg : ∀ args w, (callFunc g args).run Try.prog w = .ok (.enter g args) w) (hless : LessReadsK Try.prog g lb enc k lt blk off d.size w) (hswap : SwapSwapsK Try.prog sf sb enc k blk off d.size) (hH : HoldsK enc k w blk off d) (hblk : blk < w.heap.size) (hab : a < b) (hb : b ≤ d.size) (hsz : d.size < 4611686018427387904) :
    Calls Try.prog 67 #[.agg #[.func (.func g) #[] lb, .func (.func sf) #[] sb], .int .i64 a, .int .i64 b] w fun e w' => e = .returned (.bool (Sort.partialInsertionSort lt d a b).2) ∧ ∃ n os, w' = sortWorldK enc k w blk off n (Sort.partialInsertionSort lt d a b).1 os := Any.partialInsertionSort_func_cells_w Try.laysGg31 enc k hk lt g lb sf sb blk off a b d w eg hless hswap hH hblk hab hb hsz
open Go.RowKit Go.Lib Go.Sort in
theorem Try.order2_func_cells {α : Type} [Inhabited α] (enc : α → List Value) (k : Nat) (hk : ∀ x, (enc x).length = k) (lt : α → α → Bool) (g : Nat) (lb : Array Value) (sfn : Fn) (sa sb : Array Value) (blk off : Nat) (w0 W : World) (d : Array α) (a b cb co s : Nat) (eg : ∀ args w, (callFunc g args).run Try.prog w = .ok (.enter g args) w) (hL : LessReadsK Try.prog g lb enc k lt blk off d.size w0) (hW : SWK enc k w0 blk off d W) (ha : a < d.size) (hb : b < d.size) (hS : Holds (Value.int .i64) W cb co (one s)) (hcb : cb < W.heap.size) (hs : s < 4611686018427387904) :
    Calls Try.prog 76 #[.agg #[.func (.func g) #[] lb, .func sfn sa sb], .int .i64 a, .int .i64 b, .pointer (some ⟨cb, co, none⟩)] W fun e w' =>
      e = .returned (.tuple #[.int .i64 (order2 lt d a b s).1, .int .i64 (order2 lt d a b s).2.1]) ∧ ∃ n os, w' = sortWorld (Value.int .i64) W cb co n (one (order2 lt d a b s).2.2) os := Any.order2_func_cells Try.laysGg39 enc k hk lt g lb sfn sa sb blk off w0 W d a b cb co s eg hL hW ha hb hS hcb hs
open Go.RowKit Go.Lib Go.Sort in
theorem Try.median_func_cells {α : Type} [Inhabited α] (enc : α → List Value) (k : Nat) (hk : ∀ x, (enc x).length = k) (lt : α → α → Bool) (g : Nat) (lb : Array Value) (sfn : Fn) (sa sb : Array Value) (blk off : Nat) (w0 W : World) (d : Array α) (a b c cb co s : Nat) (eg : ∀ args w, (callFunc g args).run Try.prog w = .ok (.enter g args) w) (hL : LessReadsK Try.prog g lb enc k lt blk off d.size w0) (hW : SWK enc k w0 blk off d W) (ha : a < d.size) (hb : b < d.size) (hc : c < d.size) (hS : Holds (Value.int .i64) W cb co (one s)) (hcb0 : w0.heap.size ≤ cb) (hcb : cb < W.heap.size) (hs : s + 3 < 4611686018427387904) :
    Calls Try.prog 75 #[.agg #[.func (.func g) #[] lb, .func sfn sa sb], .int .i64 a, .int .i64 b, .int .i64 c, .pointer (some ⟨cb, co, none⟩)] W fun e w' =>
      e = .returned (.int .i64 (median lt d a b c s).1) ∧ ∃ n os, w' = sortWorld (Value.int .i64) W cb co n (one (median lt d a b c s).2) os := Any.median_func_cells Try.laysGg38 enc k hk lt g lb sfn sa sb blk off w0 W d a b c cb co s eg hL hW ha hb hc hS hcb0 hcb hs
open Go.RowKit Go.Lib Go.Sort in
theorem Try.medianAdjacent_func_cells {α : Type} [Inhabited α] (enc : α → List Value) (k : Nat) (hk : ∀ x, (enc x).length = k) (lt : α → α → Bool) (g : Nat) (lb : Array Value) (sfn : Fn) (sa sb : Array Value) (blk off : Nat) (w0 W : World) (d : Array α) (a cb co s : Nat) (eg : ∀ args w, (callFunc g args).run Try.prog w = .ok (.enter g args) w) (hL : LessReadsK Try.prog g lb enc k lt blk off d.size w0) (hW : SWK enc k w0 blk off d W) (ha1 : 1 ≤ a) (ha2 : a + 1 < d.size) (hsz : d.size < 4611686018427387904) (hS : Holds (Value.int .i64) W cb co (one s)) (hcb0 : w0.heap.size ≤ cb) (hcb : cb < W.heap.size) (hs : s + 3 < 4611686018427387904) :
    Calls Try.prog 74 #[.agg #[.func (.func g) #[] lb, .func sfn sa sb], .int .i64 a, .pointer (some ⟨cb, co, none⟩)] W fun e w' =>
      e = .returned (.int .i64 (medianAdjacent lt d a s).1) ∧ ∃ n os, w' = sortWorld (Value.int .i64) W cb co n (one (medianAdjacent lt d a s).2) os := Any.medianAdjacent_func_cells Try.laysGg37 enc k hk lt g lb sfn sa sb blk off w0 W d a cb co s eg hL hW ha1 ha2 hsz hS hcb0 hcb hs
open Go.RowKit Go.Lib Go.Sort in
/-- sort.choosePivot_func: THE LIBRARY's OWN TEXT COMPUTES 'Sort.choosePivot lt d a b'; the row is not turned; W is grown. (After Derived/Sort/Walk11.lean's 'So.choosePivot_int', row for row.) (LAID: no walk: one application.) -/
theorem Try.choosePivot_func_cells {α : Type} [Inhabited α] (enc : α → List Value) (k : Nat) (hk : ∀ x, (enc x).length = k) (lt : α → α → Bool) (g : Nat) (lb : Array Value) (sfn : Fn) (sa sb : Array Value) (blk off a b : Nat) (W : World) (d : Array α) (eg : ∀ args w, (callFunc g args).run Try.prog w = .ok (.enter g args) w) (hless : LessReadsK Try.prog g lb enc k lt blk off d.size W) (hH : HoldsK enc k W blk off d) (hab : a < b) (hb : b ≤ d.size) (hsz : d.size < 4611686018427387904) :
    Calls Try.prog 65 #[.agg #[.func (.func g) #[] lb, .func sfn sa sb], .int .i64 a, .int .i64 b] W fun e w' =>
      e = .returned (.tuple #[.int .i64 (choosePivot lt d a b).1, .int .i64 (hintCode (choosePivot lt d a b).2)]) ∧ ∃ n os, w' = grow (Sort.ahead W n) os := Any.choosePivot_func_cells Try.laysGg29 enc k hk lt g lb sfn sa sb blk off a b W d eg hless hH hab hb hsz
open Go.RowKit Go.Lib Go.Sort in
theorem Try.partitionEqual_func_cells {α : Type} [Inhabited α] (enc : α → List Value) (k : Nat) (hk : ∀ x, (enc x).length = k) (lt : α → α → Bool) (g : Nat) (lb : Array Value) (sf : Nat) (sb : Array Value) (blk off a b pivot : Nat) (d : Array α) (W : World) (eg : ∀ args w, (callFunc g args).run Try.prog w = .ok (.enter g args) w) (hless : LessReadsK Try.prog g lb enc k lt blk off d.size W) (hswap : SwapSwapsK Try.prog sf sb enc k blk off d.size) (hH : HoldsK enc k W blk off d) (hblk : blk < W.heap.size) (hap : a ≤ pivot) (hpb : pivot < b) (hb : b ≤ d.size) (hsz : d.size < 4611686018427387904) :
    Calls Try.prog 68 #[.agg #[.func (.func g) #[] lb, .func (.func sf) #[] sb], .int .i64 a, .int .i64 b, .int .i64 pivot] W fun e w' =>
      e = .returned (.int .i64 (Sort.partitionEqual lt d a b pivot).1) ∧ ∃ n, w' = (putRowK enc k (W.alloc (.cells #[.func (.func g) #[] lb, .func (.func sf) #[] sb] 123)) blk off (Sort.partitionEqual lt d a b pivot).2).drewN n := Any.partitionEqual_func_cells Try.laysGg32 enc k hk lt g lb sf sb blk off a b pivot d W eg hless hswap hH hblk hap hpb hb hsz
open Go.RowKit Go.Lib Go.Sort in
theorem Try.partition_func_cells {α : Type} [Inhabited α] (enc : α → List Value) (k : Nat) (hk : ∀ x, (enc x).length = k) (lt : α → α → Bool) (g : Nat) (lb : Array Value) (sf : Nat) (sb : Array Value) (blk off a b pivot : Nat) (d : Array α) (W : World) (eg : ∀ args w, (callFunc g args).run Try.prog w = .ok (.enter g args) w) (hless : LessReadsK Try.prog g lb enc k lt blk off d.size W) (hswap : SwapSwapsK Try.prog sf sb enc k blk off d.size) (hH : HoldsK enc k W blk off d) (hblk : blk < W.heap.size) (hap : a ≤ pivot) (hpb : pivot < b) (hb : b ≤ d.size) (hsz : d.size < 4611686018427387904) :
    Calls Try.prog 69 #[.agg #[.func (.func g) #[] lb, .func (.func sf) #[] sb], .int .i64 a, .int .i64 b, .int .i64 pivot] W fun e w' =>
      e = .returned (.tuple #[.int .i64 (Sort.partition lt d a b pivot).1, .bool (Sort.partition lt d a b pivot).2.1]) ∧ ∃ n, w' = (putRowK enc k (W.alloc (.cells #[.func (.func g) #[] lb, .func (.func sf) #[] sb] 123)) blk off (Sort.partition lt d a b pivot).2.2).drewN n := Any.partition_func_cells Try.laysGg33 enc k hk lt g lb sf sb blk off a b pivot d W eg hless hswap hH hblk hap hpb hb hsz
open Go.RowKit Go.Lib Go.Sort in
/-- sort.partitionEqual_func, from a world to a 'sortWorld' of it. (LAID: no walk: one application.) -/
theorem Try.partitionEqual_func_cells_w {α : Type} [Inhabited α] (enc : α → List Value) (k : Nat) (hk : ∀ x, (enc x).length = k) (lt : α → α → Bool) (g : Nat) (lb : Array Value) (sf : Nat) (sb : Array Value) (blk off a b pivot : Nat) (d : Array α) (W : World) (eg : ∀ args w, (callFunc g args).run Try.prog w = .ok (.enter g args) w) (hless : LessReadsK Try.prog g lb enc k lt blk off d.size W) (hswap : SwapSwapsK Try.prog sf sb enc k blk off d.size) (hH : HoldsK enc k W blk off d) (hblk : blk < W.heap.size) (hap : a ≤ pivot) (hpb : pivot < b) (hb : b ≤ d.size) (hsz : d.size < 4611686018427387904) :
    Calls Try.prog 68 #[.agg #[.func (.func g) #[] lb, .func (.func sf) #[] sb], .int .i64 a, .int .i64 b, .int .i64 pivot] W fun e w' => e = .returned (.int .i64 (Sort.partitionEqual lt d a b pivot).1) ∧ ∃ n os, w' = sortWorldK enc k W blk off n (Sort.partitionEqual lt d a b pivot).2 os := Any.partitionEqual_func_cells_w Try.laysGg32 enc k hk lt g lb sf sb blk off a b pivot d W eg hless hswap hH hblk hap hpb hb hsz
open Go.RowKit Go.Lib Go.Sort in
/-- sort.partition_func, from a world to a 'sortWorld' of it. (LAID: no walk: one application.) -/
theorem Try.partition_func_cells_w {α : Type} [Inhabited α] (enc : α → List Value) (k : Nat) (hk : ∀ x, (enc x).length = k) (lt : α → α → Bool) (g : Nat) (lb : Array Value) (sf : Nat) (sb : Array Value) (blk off a b pivot : Nat) (d : Array α) (W : World) (eg : ∀ args w, (callFunc g args).run Try.prog w = .ok (.enter g args) w) (hless : LessReadsK Try.prog g lb enc k lt blk off d.size W) (hswap : SwapSwapsK Try.prog sf sb enc k blk off d.size) (hH : HoldsK enc k W blk off d) (hblk : blk < W.heap.size) (hap : a ≤ pivot) (hpb : pivot < b) (hb : b ≤ d.size) (hsz : d.size < 4611686018427387904) :
    Calls Try.prog 69 #[.agg #[.func (.func g) #[] lb, .func (.func sf) #[] sb], .int .i64 a, .int .i64 b, .int .i64 pivot] W fun e w' => e = .returned (.tuple #[.int .i64 (Sort.partition lt d a b pivot).1, .bool (Sort.partition lt d a b pivot).2.1]) ∧ ∃ n os, w' = sortWorldK enc k W blk off n (Sort.partition lt d a b pivot).2.2 os := Any.partition_func_cells_w Try.laysGg33 enc k hk lt g lb sf sb blk off a b pivot d W eg hless hswap hH hblk hap hpb hb hsz
open Go.RowKit Go.Lib Go.Sort in
theorem Try.siftDown_func_one {α : Type} [Inhabited α] (enc : α → Value) (lt : α → α → Bool) (g : Nat) (lb : Array Value) (sf : Nat) (sb : Array Value) (blk off lo hi first : Nat) (d : Array α) (w : World) (eg : ∀ args w, (callFunc g args).run Try.prog w = .ok (.enter g args) w) (hless : LessReads Try.prog g lb enc lt blk off d.size w) (hswap : SwapSwaps Try.prog sf sb enc blk off d.size) (hH : Holds enc w blk off d) (hblk : blk < w.heap.size) (hlo : lo ≤ hi) (hb : first + hi ≤ d.size) (hsz : d.size < 4611686018427387904) :
    Calls Try.prog 71 #[.agg #[.func (.func g) #[] lb, .func (.func sf) #[] sb], .int .i64 lo, .int .i64 hi, .int .i64 first] w fun e w' =>
      e = .returned (.tuple #[]) ∧ ∃ n, w' = putRow enc (Sort.ahead (w.alloc (.cells #[.func (.func g) #[] lb, .func (.func sf) #[] sb] 123)) n) blk off (siftDown lt hi first lo d) := Any.siftDown_func_one Try.laysGg34 enc lt g lb sf sb blk off lo hi first d w eg hless hswap hH hblk hlo hb hsz
open Go.RowKit Go.Lib Go.Sort in
/-- sort.siftDown_func, from a world to a 'sortWorld' of it. (LAID: no walk: one application.) -/
theorem Try.siftDown_func_w {α : Type} [Inhabited α] (enc : α → Value) (lt : α → α → Bool) (g : Nat) (lb : Array Value) (sf : Nat) (sb : Array Value) (blk off lo hi first : Nat) (d : Array α) (w : World) (eg : ∀ args w, (callFunc g args).run Try.prog w = .ok (.enter g args) w) (hless : LessReads Try.prog g lb enc lt blk off d.size w) (hswap : SwapSwaps Try.prog sf sb enc blk off d.size) (hH : Holds enc w blk off d) (hblk : blk < w.heap.size) (hlo : lo ≤ hi) (hb : first + hi ≤ d.size) (hsz : d.size < 4611686018427387904) :
    Calls Try.prog 71 #[.agg #[.func (.func g) #[] lb, .func (.func sf) #[] sb], .int .i64 lo, .int .i64 hi, .int .i64 first] w fun e w' => e = .returned (.tuple #[]) ∧ ∃ n os, w' = sortWorld enc w blk off n (siftDown lt hi first lo d) os := Any.siftDown_func_w Try.laysGg34 enc lt g lb sf sb blk off lo hi first d w eg hless hswap hH hblk hlo hb hsz
open Go.RowKit Go.Lib Go.Sort in
theorem Try.heapSort_func_w {α : Type} [Inhabited α] (enc : α → Value) (lt : α → α → Bool) (g : Nat) (lb : Array Value) (sf : Nat) (sb : Array Value) (blk off a b : Nat) (d : Array α) (w : World) (eg : ∀ args w, (callFunc g args).run Try.prog w = .ok (.enter g args) w) (hless : LessReads Try.prog g lb enc lt blk off d.size w) (hswap : SwapSwaps Try.prog sf sb enc blk off d.size) (hH : Holds enc w blk off d) (hblk : blk < w.heap.size) (hab : a ≤ b) (hb : b ≤ d.size) (hsz : d.size < 4611686018427387904) :
    Calls Try.prog 63 #[.agg #[.func (.func g) #[] lb, .func (.func sf) #[] sb], .int .i64 a, .int .i64 b] w fun e w' => e = .returned (.tuple #[]) ∧ ∃ n os, w' = sortWorld enc w blk off n (heapSort lt d a b) os := Any.heapSort_func_w Try.laysGg27 enc lt g lb sf sb blk off a b d w eg hless hswap hH hblk hab hb hsz
open Go.RowKit Go.Lib Go.Sort in
theorem Try.partialInsertionSort_func_one {α : Type} [Inhabited α] (enc : α → Value) (lt : α → α → Bool) (g : Nat) (lb : Array Value) (sf : Nat) (sb : Array Value) (blk off a b : Nat) (d : Array α) (w : World) (eg : ∀ args w, (callFunc g args).run Try.prog w = .ok (.enter g args) w) (hless : LessReads Try.prog g lb enc lt blk off d.size w) (hswap : SwapSwaps Try.prog sf sb enc blk off d.size) (hH : Holds enc w blk off d) (hblk : blk < w.heap.size) (hab : a < b) (hb : b ≤ d.size) (hsz : d.size < 4611686018427387904) :
    Calls Try.prog 67 #[.agg #[.func (.func g) #[] lb, .func (.func sf) #[] sb], .int .i64 a, .int .i64 b] w fun e w' =>
      e = .returned (.bool (Sort.partialInsertionSort lt d a b).2) ∧ ∃ n, w' = putRow enc (Sort.ahead (w.alloc (.cells #[.func (.func g) #[] lb, .func (.func sf) #[] sb] 123)) n) blk off (Sort.partialInsertionSort lt d a b).1 := Any.partialInsertionSort_func_one Try.laysGg31 enc lt g lb sf sb blk off a b d w eg hless hswap hH hblk hab hb hsz
open Go.RowKit Go.Lib Go.Sort in
/-- sort.partialInsertionSort_func, from a world to a 'sortWorld' of it. (LAID: no walk: one application.) -/
theorem Try.partialInsertionSort_func_w {α : Type} [Inhabited α] (enc : α → Value) (lt : α → α → Bool) (g : Nat) (lb : Array Value) (sf : Nat) (sb : Array Value) (blk off a b : Nat) (d : Array α) (w : World) (eg : ∀ args w, (callFunc g args).run Try.prog w = .ok (.enter g args) w) (hless : LessReads Try.prog g lb enc lt blk off d.size w) (hswap : SwapSwaps Try.prog sf sb enc blk off d.size) (hH : Holds enc w blk off d) (hblk : blk < w.heap.size) (hab : a < b) (hb : b ≤ d.size) (hsz : d.size < 4611686018427387904) :
    Calls Try.prog 67 #[.agg #[.func (.func g) #[] lb, .func (.func sf) #[] sb], .int .i64 a, .int .i64 b] w fun e w' => e = .returned (.bool (Sort.partialInsertionSort lt d a b).2) ∧ ∃ n os, w' = sortWorld enc w blk off n (Sort.partialInsertionSort lt d a b).1 os := Any.partialInsertionSort_func_w Try.laysGg31 enc lt g lb sf sb blk off a b d w eg hless hswap hH hblk hab hb hsz
open Go.RowKit Go.Lib Go.Sort in
theorem Try.pdqsort_func_cells_all {α : Type} [Inhabited α] (enc : α → List Value) (k : Nat) (hk : ∀ x, (enc x).length = k) (lt : α → α → Bool) (hO : SWO lt) (g : Nat) (lb : Array Value) (sf : Nat) (sb : Array Value) (eg : ∀ args w, (callFunc g args).run Try.prog w = .ok (.enter g args) w) :
    ∀ (N blk off a b limit : Nat) (d : Array α) (w : World), b - a < N → LessReadsK Try.prog g lb enc k lt blk off d.size w → SwapSwapsK Try.prog sf sb enc k blk off d.size → HoldsK enc k w blk off d → blk < w.heap.size → a ≤ b → b ≤ d.size → d.size < 4611686018427387904 → limit < 4611686018427387904 → Below lt a b d →
    Calls Try.prog 45 #[.agg #[.func (.func g) #[] lb, .func (.func sf) #[] sb], .int .i64 a, .int .i64 b, .int .i64 limit] w fun e w' => e = .returned (.tuple #[]) ∧ AtK enc k w blk off (pdq lt d a b limit true true) w' := Any.pdqsort_func_cells_all Try.laysGg14 enc k hk lt hO g lb sf sb eg
end Go.Proofs
