/-
  DERIVED: THE SHELF's CONTRACTS AT THIS DUMP, IN PLAIN WORDS (tools/lay-plain.mjs out of 'TryzShelf.lean', which tools/lay-shelf.mjs wrote): THE SAME DECLARATIONS UNDER THE SAME NAMES: 'import', 'namespace', 'open', 'def', 'theorem' AND NOTHING ELSE: no command of the shelf's: FOR A HAND-IN. Each laying: the table of numbers ('.._ren') and one theorem, a field a fact of the dump's own or the kernel's comparison; each contract: ONE APPLICATION.
-/
import Derived.Shelf.Strings.Builder1
import Derived.Shelf.Strings.Builder2
import Derived.Shelf.Strings.OnBuilder
import Derived.Shelf.Strings.TrimSpace
import Derived.Shelf.Small.Utf8
import Derived.Shelf.Small.Bits
import Derived.Shelf.Small.Strs
import Derived.Shelf.Strings.BuilderF
import Derived.Shelf.Strings.BuilderK
import Derived.Shelf.Strings.BuilderRune
import Derived.Shelf.Utf8.AppendRunePlain
import Derived.Shelf.Strings.Builder2Cap
import Derived.Shelf.Strconv.Itoa0
import Derived.Shelf.Strings.Search1
import Derived.Shelf.Sort.Plain
import Derived.Ground.GgsProg
import Derived.Shelf.GgSortFunc.Insertion
import Derived.Shelf.GgSortFunc.Small
import Derived.Shelf.GgSortFunc.InsertionK
import Derived.Shelf.GgSortFunc.SmallK
import Derived.Shelf.GgSortFunc.Tiny
import Derived.Shelf.GgSortFunc.Compose
import Derived.Shelf.GgSortFunc.LotD
import Derived.Shelf.GgSortFunc.Pivot
import Derived.Shelf.GgSortFunc.Partition
import Derived.Shelf.GgSortFunc.Pdq
import Derived.Shelf.GgSortFunc.Whole
import Derived.Shelf.Strings.Prefix
import Derived.Shelf.Unicode.Latin
import Derived.Shelf.Unicode.Decode
import Derived.Shelf.Bits.Mul64
import Derived.Shelf.Strings.Repeat
import Derived.Shelf.Unicode.DecodeSlow
import Derived.Shelf.Unicode.DecodeAny
import Derived.Shelf.Unicode.Is16White
import Derived.Shelf.Unicode.IsSpaceAny
import Derived.Shelf.Unicode.DecodeLast
import Derived.Shelf.Strings.TrimSpaceAny
import Derived.Shelf.Unicode.Is16Any
import Derived.Shelf.Unicode.Is32Any
import Derived.Shelf.Unicode.ExclAny
import Derived.Shelf.Strings.BuilderCap
import Derived.Shelf.Slices.Equal
import Derived.Shelf.Slices.In.SortNone
import Derived.Shelf.Slices.Empties2
import Derived.Shelf.SlSortFunc.Xorshift
import Derived.Shelf.SlSortFuncK.ComposeK
import Derived.Shelf.SlSortFuncK.SiftDownK
import Derived.Shelf.SlSortFuncK.HeapSortK
import Derived.Shelf.SlSortFuncK.PartialInsertionK
import Derived.Shelf.SlSortFuncK.LotDK
import Derived.Shelf.SlSortFuncK.PivotK
import Derived.Shelf.SlSortFuncK.PartitionK
import Derived.Shelf.SlSortFunc.SiftDown
import Derived.Shelf.SlSortFunc.HeapSort
import Derived.Shelf.SlSortFunc.PartialInsertion
import Derived.Shelf.SlSortFuncK.PdqK
import Derived.Shelf.SlSortFuncK.WholeK
import Derived.Shelf.Unicode.ValidAny
import Derived.Test.YtleofgndghjflaaGreatDoorProg
set_option maxRecDepth 100000
namespace Go.Proofs
open Go.Shelf
def Tryz.lays170_ren : Go.Shelf.Ren := ⟨fun | 170 => 52 | n => n, fun | 70 => 107 | 3 => 3 | 0 => 0 | 72 => 109 | 37 => 57 | 5 => 5 | n => n, fun | n => n⟩
theorem Tryz.lays170 : Go.Proofs.Lays.n170 Tryz.prog Tryz.lays170_ren := {
  mixed := by kernel_rfl
  f170 := Tryz.func52.trans (congrArg some (by kernel_rfl))
  t0 := Tryz.underlying0
  a0 := Tryz.isAgg0
  z0 := Tryz.sizeOf0
  v0 := Tryz.zeroValue0
  t3 := Tryz.underlying3
  a3 := Tryz.isAgg3
  z3 := Tryz.sizeOf3
  v3 := Tryz.zeroValue3
  t37 := Tryz.underlying57
  a37 := Tryz.isAgg57
  z37 := Tryz.sizeOf57
  v37 := Tryz.zeroValue57
  t70 := Tryz.underlying107
  a70 := Tryz.isAgg107
  z70 := Tryz.sizeOf107
  v70 := Tryz.zeroValue107
  t72 := Tryz.underlying109
  a72 := Tryz.isAgg109
  z72 := Tryz.sizeOf109
  v72 := Tryz.zeroValue109 }
open Go.RowKit in
/-- (*strings.Builder).Len: "Len returns the number of accumulated bytes; b.Len() == len(b.String()).": the world is as it was. (LAID: no walk: one application.) -/
theorem Tryz.Builder_Len (B b : Nat) (bs : List Value) (w : World) (h : Lib.IsBuilder 109 5 B b bs w) :
    Calls Tryz.prog 52 #[.pointer (some ⟨b, 0, none⟩)] w fun e w' => e = .returned (.int .i64 bs.length) ∧ w' = w := Any.Builder_Len Tryz.lays170 B b bs w h
def Tryz.lays169_ren : Go.Shelf.Ren := ⟨fun | 169 => 53 | n => n, fun | 70 => 107 | 9 => 9 | 0 => 0 | 72 => 109 | 37 => 57 | 127 => 151 | 3 => 3 | 5 => 5 | n => n, fun | n => n⟩
theorem Tryz.lays169 : Go.Proofs.Lays.n169 Tryz.prog Tryz.lays169_ren := {
  mixed := by kernel_rfl
  f169 := Tryz.func53.trans (congrArg some (by kernel_rfl))
  t0 := Tryz.underlying0
  a0 := Tryz.isAgg0
  z0 := Tryz.sizeOf0
  v0 := Tryz.zeroValue0
  t3 := Tryz.underlying3
  a3 := Tryz.isAgg3
  z3 := Tryz.sizeOf3
  v3 := Tryz.zeroValue3
  t9 := Tryz.underlying9
  a9 := Tryz.isAgg9
  z9 := Tryz.sizeOf9
  v9 := Tryz.zeroValue9
  t37 := Tryz.underlying57
  a37 := Tryz.isAgg57
  z37 := Tryz.sizeOf57
  v37 := Tryz.zeroValue57
  t70 := Tryz.underlying107
  a70 := Tryz.isAgg107
  z70 := Tryz.sizeOf107
  v70 := Tryz.zeroValue107
  t72 := Tryz.underlying109
  a72 := Tryz.isAgg109
  z72 := Tryz.sizeOf109
  v72 := Tryz.zeroValue109
  t127 := Tryz.underlying151
  a127 := Tryz.isAgg151
  z127 := Tryz.sizeOf151
  v127 := Tryz.zeroValue151 }
theorem Tryz.Builder_Extra_169 : Builder.Extra Tryz.prog Tryz.lays169_ren := {
  sizeBuilder := by kernel_rfl
  liesBuilder := by kernel_rfl
  t5 := Tryz.underlying5
  a5 := Tryz.isAgg5
  z5 := Tryz.sizeOf5
  v5 := Tryz.zeroValue5
  infoByte := by kernel_rfl
  cellsByte := by kernel_rfl
  sizeByte := by kernel_rfl
  neB5 := by decide }
open Go.RowKit in
/-- (*strings.Builder).String: "String returns the accumulated string.": OF A BUILDER THAT HOLDS AT LEAST ONE BYTE. ✋ THE MODEL FREEZES THOSE BYTES IN THE BUFFER (unsafe.String): a later write INTO them ends the model's run without an answer; a later append BEHIND them goes on. The statement's order of evaluation is drawn: one draw. (LAID: no walk: one application.) -/
theorem Tryz.Builder_String (B b : Nat) (l : List UInt8) (w : World) (h : Lib.IsBuilder 109 5 B b (Lib.byteCells l) w) (h0 : l ≠ []) :
    Calls Tryz.prog 53 #[.pointer (some ⟨b, 0, none⟩)] w fun e w' => e = .returned (.string ⟨l.toArray⟩) ∧ Below B w w' := Any.Builder_String Tryz.lays169 Tryz.Builder_Extra_169 B b l w h h0
open Go.RowKit in
/-- (*strings.Builder).String OF A BUILDER THAT HOLDS NO BYTE: the empty string. (Its buffer is nil, or a row of which it has taken nothing yet; where that row has NO capacity the model lays one new block for unsafe.SliceData's 'some address'.) One draw. (LAID: no walk: one application.) -/
theorem Tryz.Builder_String_empty (B b : Nat) (w : World) (h : Lib.IsBuilder 109 5 B b [] w) (hBw : B ≤ w.heap.size) :
    Calls Tryz.prog 53 #[.pointer (some ⟨b, 0, none⟩)] w fun e w' => e = .returned (.string ⟨#[]⟩) ∧ Below B w w' := Any.Builder_String_empty Tryz.lays169 Tryz.Builder_Extra_169 B b w h hBw
open Go.RowKit in
/-- (*strings.Builder).String: "String returns the accumulated string.": WHATEVER THE BUILDER HOLDS. (LAID: no walk: one application.) -/
theorem Tryz.Builder_String_any (B b : Nat) (l : List UInt8) (w : World) (h : Lib.IsBuilder 109 5 B b (Lib.byteCells l) w) (hBw : B ≤ w.heap.size) :
    Calls Tryz.prog 53 #[.pointer (some ⟨b, 0, none⟩)] w fun e w' => e = .returned (.string ⟨l.toArray⟩) ∧ Below B w w' := Any.Builder_String_any Tryz.lays169 Tryz.Builder_Extra_169 B b l w h hBw
def Tryz.lays241_ren : Go.Shelf.Ren := ⟨fun | 241 => 92 | 277 => 128 | n => n, fun | 70 => 107 | 3 => 3 | 0 => 0 | 72 => 109 | 37 => 57 | 5 => 5 | n => n, fun | n => n⟩
theorem Tryz.lays241 : Go.Proofs.Lays.n241 Tryz.prog Tryz.lays241_ren := {
  mixed := by kernel_rfl
  f241 := Tryz.func92.trans (congrArg some (by kernel_rfl))
  f277 := Tryz.func128.trans (congrArg some (by kernel_rfl))
  t0 := Tryz.underlying0
  a0 := Tryz.isAgg0
  z0 := Tryz.sizeOf0
  v0 := Tryz.zeroValue0
  t3 := Tryz.underlying3
  a3 := Tryz.isAgg3
  z3 := Tryz.sizeOf3
  v3 := Tryz.zeroValue3
  t37 := Tryz.underlying57
  a37 := Tryz.isAgg57
  z37 := Tryz.sizeOf57
  v37 := Tryz.zeroValue57
  t70 := Tryz.underlying107
  a70 := Tryz.isAgg107
  z70 := Tryz.sizeOf107
  v70 := Tryz.zeroValue107
  t72 := Tryz.underlying109
  a72 := Tryz.isAgg109
  z72 := Tryz.sizeOf109
  v72 := Tryz.zeroValue109 }
theorem Tryz.Builder_Extra_241 : Builder.Extra Tryz.prog Tryz.lays241_ren := {
  sizeBuilder := by kernel_rfl
  liesBuilder := by kernel_rfl
  t5 := Tryz.underlying5
  a5 := Tryz.isAgg5
  z5 := Tryz.sizeOf5
  v5 := Tryz.zeroValue5
  infoByte := by kernel_rfl
  cellsByte := by kernel_rfl
  sizeByte := by kernel_rfl
  neB5 := by decide }
open Go.RowKit in
/-- (*strings.Builder).grow (no doc but "grow copies the buffer to a new, larger buffer so that there are at least n bytes of capacity beyond len(b.buf)."): AT A BUILDER WITHOUT A BUFFER: a new row of whatever bytes for its buffer, none of them its own yet. Three draws. (LAID: no walk: one application.) -/
theorem Tryz.Builder_grow_fresh (B b n : Nat) (w : World) (hB : B ≤ b) (hbk : w.heap[b]? = some (.cells #[.pointer (some ⟨b, 0, none⟩), .slice none 0 0] 109 (0, 0))) (hBw : B ≤ w.heap.size) (hn : n ≤ 281474976710656) :
    Calls Tryz.prog 92 #[.pointer (some ⟨b, 0, none⟩), .int .i64 n] w fun e w' => e = .returned (.tuple #[]) ∧ (Lib.BuilderAt 109 5 B b (.pointer (some ⟨b, 0, none⟩)) [] w' ∧ Below B w w') := Any.Builder_grow_fresh Tryz.lays241 Tryz.Builder_Extra_241 B b n w hB hbk hBw hn
def Tryz.lays165_ren : Go.Shelf.Ren := ⟨fun | 165 => 50 | 240 => 91 | 241 => 92 | 276 => 127 | 277 => 128 | n => n, fun | 70 => 107 | 3 => 3 | 0 => 0 | 4 => 4 | 9 => 9 | 20 => 20 | 72 => 109 | 37 => 57 | 164 => 193 | 5 => 5 | n => n, fun | n => n⟩
theorem Tryz.lays165 : Go.Proofs.Lays.n165 Tryz.prog Tryz.lays165_ren := {
  mixed := by kernel_rfl
  f165 := Tryz.func50.trans (congrArg some (by kernel_rfl))
  f240 := Tryz.func91.trans (congrArg some (by kernel_rfl))
  f241 := Tryz.func92.trans (congrArg some (by kernel_rfl))
  f276 := Tryz.func127.trans (congrArg some (by kernel_rfl))
  f277 := Tryz.func128.trans (congrArg some (by kernel_rfl))
  t0 := Tryz.underlying0
  a0 := Tryz.isAgg0
  z0 := Tryz.sizeOf0
  v0 := Tryz.zeroValue0
  t3 := Tryz.underlying3
  a3 := Tryz.isAgg3
  z3 := Tryz.sizeOf3
  v3 := Tryz.zeroValue3
  t4 := Tryz.underlying4
  a4 := Tryz.isAgg4
  z4 := Tryz.sizeOf4
  v4 := Tryz.zeroValue4
  t9 := Tryz.underlying9
  a9 := Tryz.isAgg9
  z9 := Tryz.sizeOf9
  v9 := Tryz.zeroValue9
  t20 := Tryz.underlying20
  a20 := Tryz.isAgg20
  z20 := Tryz.sizeOf20
  v20 := Tryz.zeroValue20
  t37 := Tryz.underlying57
  a37 := Tryz.isAgg57
  z37 := Tryz.sizeOf57
  v37 := Tryz.zeroValue57
  t70 := Tryz.underlying107
  a70 := Tryz.isAgg107
  z70 := Tryz.sizeOf107
  v70 := Tryz.zeroValue107
  t72 := Tryz.underlying109
  a72 := Tryz.isAgg109
  z72 := Tryz.sizeOf109
  v72 := Tryz.zeroValue109
  t164 := Tryz.underlying193
  a164 := Tryz.isAgg193
  z164 := Tryz.sizeOf193
  v164 := Tryz.zeroValue193 }
theorem Tryz.Builder_Extra_165 : Builder.Extra Tryz.prog Tryz.lays165_ren := {
  sizeBuilder := by kernel_rfl
  liesBuilder := by kernel_rfl
  t5 := Tryz.underlying5
  a5 := Tryz.isAgg5
  z5 := Tryz.sizeOf5
  v5 := Tryz.zeroValue5
  infoByte := by kernel_rfl
  cellsByte := by kernel_rfl
  sizeByte := by kernel_rfl
  neB5 := by decide }
open Go.RowKit in
/-- (*strings.Builder).Grow AT A BUILDER THAT HAS NOT BEEN WRITTEN ('var b strings.Builder; b.Grow(n)'): "Grow grows b's capacity, if necessary, to guarantee space for another n bytes.": it holds no byte behind it as before it. (LAID: no walk: one application.) -/
theorem Tryz.Builder_Grow_fresh (B b n : Nat) (w : World) (hB : B ≤ b) (hbk : w.heap[b]? = some (.cells #[.pointer none, .slice none 0 0] 109 (0, 0))) (hBw : B ≤ w.heap.size) (hn : n ≤ 281474976710656) :
    Calls Tryz.prog 50 #[.pointer (some ⟨b, 0, none⟩), .int .i64 n] w fun e w' => e = .returned (.tuple #[]) ∧ (Lib.BuilderAt 109 5 B b (.pointer (some ⟨b, 0, none⟩)) [] w' ∧ Below B w w') := Any.Builder_Grow_fresh Tryz.lays165 Tryz.Builder_Extra_165 B b n w hB hbk hBw hn
def Tryz.lays156_ren : Go.Shelf.Ren := ⟨fun | 156 => 25 | 165 => 50 | 166 => 51 | 169 => 53 | 240 => 91 | 241 => 92 | 276 => 127 | 277 => 128 | n => n, fun | 31 => 54 | 9 => 9 | 3 => 3 | 4 => 4 | 0 => 0 | 20 => 20 | 72 => 109 | 76 => 111 | 70 => 107 | 37 => 57 | 75 => 88 | 127 => 151 | 164 => 193 | 5 => 5 | 80 => 92 | n => n, fun | n => n⟩
theorem Tryz.lays156 : Go.Proofs.Lays.n156 Tryz.prog Tryz.lays156_ren := {
  mixed := by kernel_rfl
  f156 := Tryz.func25.trans (congrArg some (by kernel_rfl))
  f165 := Tryz.func50.trans (congrArg some (by kernel_rfl))
  f166 := Tryz.func51.trans (congrArg some (by kernel_rfl))
  f169 := Tryz.func53.trans (congrArg some (by kernel_rfl))
  f240 := Tryz.func91.trans (congrArg some (by kernel_rfl))
  f241 := Tryz.func92.trans (congrArg some (by kernel_rfl))
  f276 := Tryz.func127.trans (congrArg some (by kernel_rfl))
  f277 := Tryz.func128.trans (congrArg some (by kernel_rfl))
  t0 := Tryz.underlying0
  a0 := Tryz.isAgg0
  z0 := Tryz.sizeOf0
  v0 := Tryz.zeroValue0
  t3 := Tryz.underlying3
  a3 := Tryz.isAgg3
  z3 := Tryz.sizeOf3
  v3 := Tryz.zeroValue3
  t4 := Tryz.underlying4
  a4 := Tryz.isAgg4
  z4 := Tryz.sizeOf4
  v4 := Tryz.zeroValue4
  t9 := Tryz.underlying9
  a9 := Tryz.isAgg9
  z9 := Tryz.sizeOf9
  v9 := Tryz.zeroValue9
  t20 := Tryz.underlying20
  a20 := Tryz.isAgg20
  z20 := Tryz.sizeOf20
  v20 := Tryz.zeroValue20
  t31 := Tryz.underlying54
  a31 := Tryz.isAgg54
  z31 := Tryz.sizeOf54
  v31 := Tryz.zeroValue54
  t37 := Tryz.underlying57
  a37 := Tryz.isAgg57
  z37 := Tryz.sizeOf57
  v37 := Tryz.zeroValue57
  t70 := Tryz.underlying107
  a70 := Tryz.isAgg107
  z70 := Tryz.sizeOf107
  v70 := Tryz.zeroValue107
  t72 := Tryz.underlying109
  a72 := Tryz.isAgg109
  z72 := Tryz.sizeOf109
  v72 := Tryz.zeroValue109
  t75 := Tryz.underlying88
  a75 := Tryz.isAgg88
  z75 := Tryz.sizeOf88
  v75 := Tryz.zeroValue88
  t76 := Tryz.underlying111
  a76 := Tryz.isAgg111
  z76 := Tryz.sizeOf111
  v76 := Tryz.zeroValue111
  t127 := Tryz.underlying151
  a127 := Tryz.isAgg151
  z127 := Tryz.sizeOf151
  v127 := Tryz.zeroValue151
  t164 := Tryz.underlying193
  a164 := Tryz.isAgg193
  z164 := Tryz.sizeOf193
  v164 := Tryz.zeroValue193 }
theorem Tryz.Builder_Extra_156 : Builder.Extra Tryz.prog Tryz.lays156_ren := {
  sizeBuilder := by kernel_rfl
  liesBuilder := by kernel_rfl
  t5 := Tryz.underlying5
  a5 := Tryz.isAgg5
  z5 := Tryz.sizeOf5
  v5 := Tryz.zeroValue5
  infoByte := by kernel_rfl
  cellsByte := by kernel_rfl
  sizeByte := by kernel_rfl
  neB5 := by decide }
open Go.RowKit in
/-- No element: the empty string; the world is as it was. (Whatever the slice's address and capacity: a nil slice too.) (LAID: no walk: one application.) -/
theorem Tryz.strings_Join_none (a : Option Addr) (c : Nat) (sep : ByteArray) (w : World) :
    Calls Tryz.prog 25 #[.slice a 0 c, .string sep] w fun e w' => e = .returned (.string ⟨#[]⟩) ∧ w' = w := Any.strings_Join_none Tryz.lays156 Tryz.Builder_Extra_156 a c sep w
open Go.RowKit in
/-- strings.Join: "Join concatenates the elements of its first argument to create a single string. The separator string sep is placed between elements in the resulting string.": HOWEVER MANY ELEMENTS. Below the heap's end the world is as it was. (LAID: no walk: one application.) -/
theorem Tryz.strings_Join (bk o c : Nat) (xs : List ByteArray) (sep : ByteArray) (w : World) (hcells : ∀ (j : Nat) x, xs[j]? = some x → w.cell? ⟨bk, o + j, none⟩ = some (.string x)) (hbk : bk < w.heap.size) (hN : xs.length ≤ 140737488355328) (hcap : xs.length ≤ c) (hlen : (Lib.join (xs.map (·.data.toList)) sep.data.toList).length ≤ 140737488355328) :
    Calls Tryz.prog 25 #[.slice (some ⟨bk, o, none⟩) xs.length c, .string sep] w fun e w' => e = .returned (.string ⟨(Lib.join (xs.map (·.data.toList)) sep.data.toList).toArray⟩) ∧ Below w.heap.size w w' := Any.strings_Join Tryz.lays156 Tryz.Builder_Extra_156 bk o c xs sep w hcells hbk hN hcap hlen
def Tryz.lays163_ren : Go.Shelf.Ren := ⟨fun | 163 => 109 | 237 => 146 | 199 => 147 | 238 => 148 | 272 => 193 | 261 => 194 | 273 => 195 | 197 => 172 | 315 => 216 | 311 => 217 | 312 => 218 | 271 => 219 | 260 => 209 | 120 => 224 | n => n, fun | 9 => 9 | 37 => 57 | 3 => 3 | 0 => 0 | 5 => 5 | 4 => 4 | 40 => 188 | 119 => 179 | 21 => 21 | 51 => 145 | 141 => 248 | 105 => 231 | 196 => 267 | 193 => 264 | 198 => 270 | 49 => 268 | 194 => 265 | 201 => 273 | 226 => 281 | 46 => 103 | 227 => 282 | 139 => 182 | 138 => 181 | n => n, fun | 0 => 8 | 6 => 11 | 3 => 3 | 4 => 4 | n => n⟩
theorem Tryz.lays163 : Go.Proofs.Lays.n163 Tryz.prog Tryz.lays163_ren := {
  mixed := by kernel_rfl
  f120 := Tryz.func224.trans (congrArg some (by kernel_rfl))
  f163 := Tryz.func109.trans (congrArg some (by kernel_rfl))
  f197 := Tryz.func172.trans (congrArg some (by kernel_rfl))
  f199 := Tryz.func147.trans (congrArg some (by kernel_rfl))
  f237 := Tryz.func146.trans (congrArg some (by kernel_rfl))
  f238 := Tryz.func148.trans (congrArg some (by kernel_rfl))
  f260 := Tryz.func209.trans (congrArg some (by kernel_rfl))
  f261 := Tryz.func194.trans (congrArg some (by kernel_rfl))
  f271 := Tryz.func219.trans (congrArg some (by kernel_rfl))
  f272 := Tryz.func193.trans (congrArg some (by kernel_rfl))
  f273 := Tryz.func195.trans (congrArg some (by kernel_rfl))
  f311 := Tryz.func217.trans (congrArg some (by kernel_rfl))
  f312 := Tryz.func218.trans (congrArg some (by kernel_rfl))
  f315 := Tryz.func216.trans (congrArg some (by kernel_rfl))
  t0 := Tryz.underlying0
  a0 := Tryz.isAgg0
  z0 := Tryz.sizeOf0
  v0 := Tryz.zeroValue0
  t3 := Tryz.underlying3
  a3 := Tryz.isAgg3
  z3 := Tryz.sizeOf3
  v3 := Tryz.zeroValue3
  t4 := Tryz.underlying4
  a4 := Tryz.isAgg4
  z4 := Tryz.sizeOf4
  v4 := Tryz.zeroValue4
  t5 := Tryz.underlying5
  a5 := Tryz.isAgg5
  z5 := Tryz.sizeOf5
  v5 := Tryz.zeroValue5
  t9 := Tryz.underlying9
  a9 := Tryz.isAgg9
  z9 := Tryz.sizeOf9
  v9 := Tryz.zeroValue9
  t21 := Tryz.underlying21
  a21 := Tryz.isAgg21
  z21 := Tryz.sizeOf21
  v21 := Tryz.zeroValue21
  t37 := Tryz.underlying57
  a37 := Tryz.isAgg57
  z37 := Tryz.sizeOf57
  v37 := Tryz.zeroValue57
  t40 := Tryz.underlying188
  a40 := Tryz.isAgg188
  z40 := Tryz.sizeOf188
  v40 := Tryz.zeroValue188
  t46 := Tryz.underlying103
  a46 := Tryz.isAgg103
  z46 := Tryz.sizeOf103
  v46 := Tryz.zeroValue103
  t49 := Tryz.underlying268
  a49 := Tryz.isAgg268
  z49 := Tryz.sizeOf268
  v49 := Tryz.zeroValue268
  t51 := Tryz.underlying145
  a51 := Tryz.isAgg145
  z51 := Tryz.sizeOf145
  v51 := Tryz.zeroValue145
  t105 := Tryz.underlying231
  a105 := Tryz.isAgg231
  z105 := Tryz.sizeOf231
  v105 := Tryz.zeroValue231
  t119 := Tryz.underlying179
  a119 := Tryz.isAgg179
  z119 := Tryz.sizeOf179
  t138 := Tryz.underlying181
  a138 := Tryz.isAgg181
  z138 := Tryz.sizeOf181
  v138 := Tryz.zeroValue181
  t139 := Tryz.underlying182
  a139 := Tryz.isAgg182
  z139 := Tryz.sizeOf182
  v139 := Tryz.zeroValue182
  t141 := Tryz.underlying248
  a141 := Tryz.isAgg248
  z141 := Tryz.sizeOf248
  v141 := Tryz.zeroValue248
  t193 := Tryz.underlying264
  a193 := Tryz.isAgg264
  z193 := Tryz.sizeOf264
  v193 := Tryz.zeroValue264
  t194 := Tryz.underlying265
  a194 := Tryz.isAgg265
  z194 := Tryz.sizeOf265
  v194 := Tryz.zeroValue265
  t196 := Tryz.underlying267
  a196 := Tryz.isAgg267
  z196 := Tryz.sizeOf267
  v196 := Tryz.zeroValue267
  t198 := Tryz.underlying270
  a198 := Tryz.isAgg270
  z198 := Tryz.sizeOf270
  v198 := Tryz.zeroValue270
  t201 := Tryz.underlying273
  a201 := Tryz.isAgg273
  z201 := Tryz.sizeOf273
  v201 := Tryz.zeroValue273
  t226 := Tryz.underlying281
  a226 := Tryz.isAgg281
  z226 := Tryz.sizeOf281
  v226 := Tryz.zeroValue281
  t227 := Tryz.underlying282
  a227 := Tryz.isAgg282
  z227 := Tryz.sizeOf282
  v227 := Tryz.zeroValue282
  g0 := by kernel_rfl
  g3 := by kernel_rfl
  g4 := by kernel_rfl
  g6 := by kernel_rfl }
theorem Tryz.Space_Extra_163 : Space.Extra Tryz.prog Tryz.lays163_ren := {
  gNamed := by kernel_rfl }
open Go.RowKit in
theorem Tryz.strings_TrimSpace (s : ByteArray) (w : World) (hs : s.size ≤ 9223372036854775807) (hascii : ∀ (j : Nat) b, s.data.toList[j]? = some b → b.toNat < 128) (htab : Lib.TabIs Tryz.prog w "strings.asciiSpace" .u8 Lib.asciiSpaceTab) :
    Calls Tryz.prog 109 #[.string s] w fun e w' => e = .returned (.string ⟨(Lib.trimSpace s.data.toList).toArray⟩) ∧ w' = Lib.bytesWorld w 5 s := Any.strings_TrimSpace Tryz.lays163 Tryz.Space_Extra_163 s w hs hascii htab
def Tryz.lays120_ren : Go.Shelf.Ren := ⟨fun | 120 => 224 | n => n, fun | 5 => 5 | 4 => 4 | n => n, fun | n => n⟩
theorem Tryz.lays120 : Go.Proofs.Lays.n120 Tryz.prog Tryz.lays120_ren := {
  mixed := by kernel_rfl
  f120 := Tryz.func224.trans (congrArg some (by kernel_rfl))
  t4 := Tryz.underlying4
  a4 := Tryz.isAgg4
  z4 := Tryz.sizeOf4
  v4 := Tryz.zeroValue4
  t5 := Tryz.underlying5
  a5 := Tryz.isAgg5
  z5 := Tryz.sizeOf5
  v5 := Tryz.zeroValue5 }
/-- utf8.RuneStart: "RuneStart reports whether the byte could be the first byte of an encoded, possibly invalid rune. Second and subsequent bytes always have the top two bits set to 10.": IT RETURNS 'Lib.runeStart b'; the world is as it was. ('h0', 'h1': b is a byte: a caller has it of every byte that it was handed.) (LAID: no walk: one application.) -/
theorem Tryz.utf8_RuneStart (b : Int) (w : World) (h0 : 0 ≤ b) (h1 : b < 256) :
    Calls Tryz.prog 224 #[.int .u8 b] w fun e w' => e = .returned (.bool (Lib.runeStart b)) ∧ w' = w := Any.utf8_RuneStart Tryz.lays120 b w h0 h1
def Tryz.lays128_ren : Go.Shelf.Ren := ⟨fun | 128 => 160 | n => n, fun | 51 => 145 | 3 => 3 | 4 => 4 | 46 => 103 | 5 => 5 | 9 => 9 | n => n, fun | n => n⟩
theorem Tryz.lays128 : Go.Proofs.Lays.n128 Tryz.prog Tryz.lays128_ren := {
  mixed := by kernel_rfl
  f128 := Tryz.func160.trans (congrArg some (by kernel_rfl))
  t3 := Tryz.underlying3
  a3 := Tryz.isAgg3
  z3 := Tryz.sizeOf3
  v3 := Tryz.zeroValue3
  t4 := Tryz.underlying4
  a4 := Tryz.isAgg4
  z4 := Tryz.sizeOf4
  v4 := Tryz.zeroValue4
  t5 := Tryz.underlying5
  a5 := Tryz.isAgg5
  z5 := Tryz.sizeOf5
  v5 := Tryz.zeroValue5
  t9 := Tryz.underlying9
  a9 := Tryz.isAgg9
  z9 := Tryz.sizeOf9
  v9 := Tryz.zeroValue9
  t46 := Tryz.underlying103
  a46 := Tryz.isAgg103
  z46 := Tryz.sizeOf103
  v46 := Tryz.zeroValue103
  t51 := Tryz.underlying145
  a51 := Tryz.isAgg145
  z51 := Tryz.sizeOf145
  v51 := Tryz.zeroValue145 }
/-- bits.Len32: "Len32 returns the minimum number of bits required to represent x; the result is 0 for x == 0.": IT RETURNS 'Lib.bitLen x'; the world is as it was. ('h0', 'h1': x is a uint32.) (LAID: no walk: one application.) -/
theorem Tryz.bits_Len32 (x : Int) (w : World) (h0 : 0 ≤ x) (h1 : x ≤ 4294967295) :
    Calls Tryz.prog 160 #[.int .u32 x] w fun e w' => e = .returned (.int .i64 (Lib.bitLen x.toNat)) ∧ w' = w := Any.bits_Len32 Tryz.lays128 x w h0 h1
def Tryz.lays125_ren : Go.Shelf.Ren := ⟨fun | 125 => 113 | 128 => 160 | 129 => 161 | n => n, fun | 46 => 103 | 3 => 3 | 51 => 145 | 53 => 148 | 4 => 4 | 5 => 5 | 9 => 9 | n => n, fun | n => n⟩
theorem Tryz.lays125 : Go.Proofs.Lays.n125 Tryz.prog Tryz.lays125_ren := {
  mixed := by kernel_rfl
  f125 := Tryz.func113.trans (congrArg some (by kernel_rfl))
  f128 := Tryz.func160.trans (congrArg some (by kernel_rfl))
  f129 := Tryz.func161.trans (congrArg some (by kernel_rfl))
  t3 := Tryz.underlying3
  a3 := Tryz.isAgg3
  z3 := Tryz.sizeOf3
  v3 := Tryz.zeroValue3
  t4 := Tryz.underlying4
  a4 := Tryz.isAgg4
  z4 := Tryz.sizeOf4
  v4 := Tryz.zeroValue4
  t5 := Tryz.underlying5
  a5 := Tryz.isAgg5
  z5 := Tryz.sizeOf5
  v5 := Tryz.zeroValue5
  t9 := Tryz.underlying9
  a9 := Tryz.isAgg9
  z9 := Tryz.sizeOf9
  v9 := Tryz.zeroValue9
  t46 := Tryz.underlying103
  a46 := Tryz.isAgg103
  z46 := Tryz.sizeOf103
  v46 := Tryz.zeroValue103
  t51 := Tryz.underlying145
  a51 := Tryz.isAgg145
  z51 := Tryz.sizeOf145
  v51 := Tryz.zeroValue145
  t53 := Tryz.underlying148
  a53 := Tryz.isAgg148
  z53 := Tryz.sizeOf148
  v53 := Tryz.zeroValue148 }
/-- bits.Len: "Len returns the minimum number of bits required to represent x; the result is 0 for x == 0.": IT RETURNS 'Lib.bitLen x'; the world is as it was. (A uint has 64 bits in the model.) ITS CALLEE bits.Len64 IS MET BY ITS OWN CONTRACT OFF THE SHELF (lay that first). (LAID: no walk: one application.) -/
theorem Tryz.bits_Len (x : Int) (w : World) (h0 : 0 ≤ x) (h1 : x ≤ 18446744073709551615) :
    Calls Tryz.prog 113 #[.int .u64 x] w fun e w' => e = .returned (.int .i64 (Lib.bitLen x.toNat)) ∧ w' = w := Any.bits_Len Tryz.lays125 x w h0 h1
def Tryz.lays213_ren : Go.Shelf.Ren := ⟨fun | 213 => 144 | 265 => 191 | n => n, fun | 9 => 9 | 3 => 3 | n => n, fun | n => n⟩
theorem Tryz.lays213 : Go.Proofs.Lays.n213 Tryz.prog Tryz.lays213_ren := {
  mixed := by kernel_rfl
  f213 := Tryz.func144.trans (congrArg some (by kernel_rfl))
  f265 := Tryz.func191.trans (congrArg some (by kernel_rfl))
  t3 := Tryz.underlying3
  a3 := Tryz.isAgg3
  z3 := Tryz.sizeOf3
  v3 := Tryz.zeroValue3
  t9 := Tryz.underlying9
  a9 := Tryz.isAgg9
  z9 := Tryz.sizeOf9
  v9 := Tryz.zeroValue9 }
open Go.RowKit in
/-- internal/bytealg.CompareString (what strings.Compare calls): IT RETURNS 'Lib.compareBytes a b'; the world is as it was. (LAID: no walk: one application.) -/
theorem Tryz.bytealg_CompareString (a b : ByteArray) (w : World) :
    Calls Tryz.prog 144 #[.string a, .string b] w fun e w' => e = .returned (.int .i64 (Lib.compareBytes a.data.toList b.data.toList)) ∧ w' = w := Any.bytealg_CompareString Tryz.lays213 a b w
def Tryz.lays106_ren : Go.Shelf.Ren := ⟨fun | 106 => 104 | 213 => 144 | 265 => 191 | n => n, fun | 9 => 9 | 3 => 3 | n => n, fun | n => n⟩
theorem Tryz.lays106 : Go.Proofs.Lays.n106 Tryz.prog Tryz.lays106_ren := {
  mixed := by kernel_rfl
  f106 := Tryz.func104.trans (congrArg some (by kernel_rfl))
  f213 := Tryz.func144.trans (congrArg some (by kernel_rfl))
  f265 := Tryz.func191.trans (congrArg some (by kernel_rfl))
  t3 := Tryz.underlying3
  a3 := Tryz.isAgg3
  z3 := Tryz.sizeOf3
  v3 := Tryz.zeroValue3
  t9 := Tryz.underlying9
  a9 := Tryz.isAgg9
  z9 := Tryz.sizeOf9
  v9 := Tryz.zeroValue9 }
open Go.RowKit in
/-- strings.Compare: "Compare returns an integer comparing two strings lexicographically. The result will be 0 if a == b, -1 if a < b, and +1 if a > b.": IT RETURNS 'Lib.compareBytes a b'; the world is as it was. (LAID: no walk: one application.) -/
theorem Tryz.strings_Compare (a b : ByteArray) (w : World) :
    Calls Tryz.prog 104 #[.string a, .string b] w fun e w' => e = .returned (.int .i64 (Lib.compareBytes a.data.toList b.data.toList)) ∧ w' = w := Any.strings_Compare Tryz.lays106 a b w
def Tryz.lays137_ren : Go.Shelf.Ren := ⟨fun | 137 => 80 | 217 => 123 | 266 => 165 | n => n, fun | 9 => 9 | 5 => 5 | 3 => 3 | n => n, fun | n => n⟩
theorem Tryz.lays137 : Go.Proofs.Lays.n137 Tryz.prog Tryz.lays137_ren := {
  mixed := by kernel_rfl
  f137 := Tryz.func80.trans (congrArg some (by kernel_rfl))
  f217 := Tryz.func123.trans (congrArg some (by kernel_rfl))
  f266 := Tryz.func165.trans (congrArg some (by kernel_rfl))
  t3 := Tryz.underlying3
  a3 := Tryz.isAgg3
  z3 := Tryz.sizeOf3
  v3 := Tryz.zeroValue3
  t5 := Tryz.underlying5
  a5 := Tryz.isAgg5
  z5 := Tryz.sizeOf5
  v5 := Tryz.zeroValue5
  t9 := Tryz.underlying9
  a9 := Tryz.isAgg9
  z9 := Tryz.sizeOf9
  v9 := Tryz.zeroValue9 }
open Go.RowKit in
/-- strings.IndexByte: "IndexByte returns the index of the first instance of c in s, or -1 if c is not present in s.": IT RETURNS 'Lib.indexByte s c'; the world is as it was. (LAID: no walk: one application.) -/
theorem Tryz.strings_IndexByte (s : ByteArray) (c : Int) (w : World) :
    Calls Tryz.prog 80 #[.string s, .int .u8 c] w fun e w' => e = .returned (.int .i64 (Lib.indexByte s.data.toList c.toNat.toUInt8)) ∧ w' = w := Any.strings_IndexByte Tryz.lays137 s c w
open Go.RowKit in
/-- (*strings.Builder).Len: "Len returns the number of accumulated bytes; b.Len() == len(b.String()).": the world is as it was. (THE FORM '_f': 'Lib.IsBuilderF'.) (LAID: no walk: one application.) -/
theorem Tryz.Builder_Len_f (B b : Nat) (bs : List Value) (w : World) (h : Lib.IsBuilderF 109 5 B b bs w) :
    Calls Tryz.prog 52 #[.pointer (some ⟨b, 0, none⟩)] w fun e w' => e = .returned (.int .i64 bs.length) ∧ w' = w := Any.Builder_Len_f Tryz.lays170 B b bs w h
open Go.RowKit in
/-- (*strings.Builder).String: "String returns the accumulated string.": OF A BUILDER THAT HOLDS AT LEAST ONE BYTE. ✋ THE MODEL FREEZES THOSE BYTES IN THE BUFFER (unsafe.String): a later write INTO them ends the model's run without an answer; a later append BEHIND them goes on. The statement's order of evaluation is drawn: one draw. THE FORM '_f': IT SAYS BESIDES THAT THE BUILDER IS A BUILDER STILL ('Lib.IsBuilderF', the same bytes): SO IT CAN BE WRITTEN ON: 'b.WriteString(b.String()[:k])'. (LAID: no walk: one application.) -/
theorem Tryz.Builder_String_f (B b : Nat) (l : List UInt8) (w : World) (h : Lib.IsBuilderF 109 5 B b (Lib.byteCells l) w) (h0 : l ≠ []) :
    Calls Tryz.prog 53 #[.pointer (some ⟨b, 0, none⟩)] w fun e w' => e = .returned (.string ⟨l.toArray⟩) ∧ (Lib.IsBuilderF 109 5 B b (Lib.byteCells l) w' ∧ Below B w w') := Any.Builder_String_f Tryz.lays169 Tryz.Builder_Extra_169 B b l w h h0
open Go.RowKit in
/-- (*strings.Builder).String OF A BUILDER THAT HOLDS NO BYTE: the empty string; THE FORM '_f': a builder still. (LAID: no walk: one application.) -/
theorem Tryz.Builder_String_empty_f (B b : Nat) (w : World) (h : Lib.IsBuilderF 109 5 B b [] w) (hBw : B ≤ w.heap.size) :
    Calls Tryz.prog 53 #[.pointer (some ⟨b, 0, none⟩)] w fun e w' => e = .returned (.string ⟨#[]⟩) ∧ (Lib.IsBuilderF 109 5 B b [] w' ∧ Below B w w') := Any.Builder_String_empty_f Tryz.lays169 Tryz.Builder_Extra_169 B b w h hBw
open Go.RowKit in
/-- (*strings.Builder).String: "String returns the accumulated string.": WHATEVER THE BUILDER HOLDS; THE FORM '_f': OF A BUILDER THAT MAY HAVE BEEN READ BEFORE; AND IT IS A BUILDER STILL, holding the same bytes: it can be written on. (LAID: no walk: one application.) -/
theorem Tryz.Builder_String_any_f (B b : Nat) (l : List UInt8) (w : World) (h : Lib.IsBuilderF 109 5 B b (Lib.byteCells l) w) (hBw : B ≤ w.heap.size) :
    Calls Tryz.prog 53 #[.pointer (some ⟨b, 0, none⟩)] w fun e w' => e = .returned (.string ⟨l.toArray⟩) ∧ (Lib.IsBuilderF 109 5 B b (Lib.byteCells l) w' ∧ Below B w w') := Any.Builder_String_any_f Tryz.lays169 Tryz.Builder_Extra_169 B b l w h hBw
open Go.RowKit in
/-- (*strings.Builder).String: "String returns the accumulated string.": OF A BUILDER THAT HOLDS AT LEAST ONE BYTE. ✋ THE MODEL FREEZES THOSE BYTES IN THE BUFFER (unsafe.String): a later write INTO them ends the model's run without an answer; a later append BEHIND them goes on. The statement's order of evaluation is drawn: one draw. THE FORM '_k': OVER 'Lib.IsBuilderF' (a builder that 'String()' may have read), AND WITH THE FRAME THAT REACHES ABOVE THE BUILDER: 'Lib.OthersKept': every block that is not b and is no row of uint8's stands as it stood: the iterator of a range among them. (LAID: no walk: one application.) -/
theorem Tryz.Builder_String_k (B b : Nat) (l : List UInt8) (w : World) (h : Lib.IsBuilderF 109 5 B b (Lib.byteCells l) w) (h0 : l ≠ []) :
    Calls Tryz.prog 53 #[.pointer (some ⟨b, 0, none⟩)] w fun e w' => e = .returned (.string ⟨l.toArray⟩) ∧ (Lib.IsBuilderF 109 5 B b (Lib.byteCells l) w' ∧ Below B w w' ∧ Lib.OthersKept 5 (some b) w w') := Any.Builder_String_k Tryz.lays169 Tryz.Builder_Extra_169 B b l w h h0
open Go.RowKit in
/-- (*strings.Builder).String OF A BUILDER THAT HOLDS NO BYTE: the empty string; THE FORM '_k': OVER 'Lib.IsBuilderF' (a builder that 'String()' may have read), AND WITH THE FRAME THAT REACHES ABOVE THE BUILDER: 'Lib.OthersKept': every block that is not b and is no row of uint8's stands as it stood: the iterator of a range among them. (LAID: no walk: one application.) -/
theorem Tryz.Builder_String_empty_k (B b : Nat) (w : World) (h : Lib.IsBuilderF 109 5 B b [] w) (hBw : B ≤ w.heap.size) :
    Calls Tryz.prog 53 #[.pointer (some ⟨b, 0, none⟩)] w fun e w' => e = .returned (.string ⟨#[]⟩) ∧ (Lib.IsBuilderF 109 5 B b [] w' ∧ Below B w w' ∧ Lib.OthersKept 5 (some b) w w') := Any.Builder_String_empty_k Tryz.lays169 Tryz.Builder_Extra_169 B b w h hBw
open Go.RowKit in
/-- (*strings.Builder).String: "String returns the accumulated string.": WHATEVER THE BUILDER HOLDS; THE FORM '_k': OVER 'Lib.IsBuilderF' (a builder that 'String()' may have read), AND WITH THE FRAME THAT REACHES ABOVE THE BUILDER: 'Lib.OthersKept': every block that is not b and is no row of uint8's stands as it stood: the iterator of a range among them. (LAID: no walk: one application.) -/
theorem Tryz.Builder_String_any_k (B b : Nat) (l : List UInt8) (w : World) (h : Lib.IsBuilderF 109 5 B b (Lib.byteCells l) w) (hBw : B ≤ w.heap.size) :
    Calls Tryz.prog 53 #[.pointer (some ⟨b, 0, none⟩)] w fun e w' => e = .returned (.string ⟨l.toArray⟩) ∧ (Lib.IsBuilderF 109 5 B b (Lib.byteCells l) w' ∧ Below B w w' ∧ Lib.OthersKept 5 (some b) w w') := Any.Builder_String_any_k Tryz.lays169 Tryz.Builder_Extra_169 B b l w h hBw
def Tryz.lays278_ren : Go.Shelf.Ren := ⟨fun | 278 => 222 | n => n, fun | 37 => 57 | 21 => 21 | 51 => 145 | 4 => 4 | 46 => 103 | 5 => 5 | n => n, fun | n => n⟩
theorem Tryz.lays278 : Go.Proofs.Lays.n278 Tryz.prog Tryz.lays278_ren := {
  mixed := by kernel_rfl
  f278 := Tryz.func222.trans (congrArg some (by kernel_rfl))
  t4 := Tryz.underlying4
  a4 := Tryz.isAgg4
  z4 := Tryz.sizeOf4
  v4 := Tryz.zeroValue4
  t5 := Tryz.underlying5
  a5 := Tryz.isAgg5
  z5 := Tryz.sizeOf5
  v5 := Tryz.zeroValue5
  t21 := Tryz.underlying21
  a21 := Tryz.isAgg21
  z21 := Tryz.sizeOf21
  v21 := Tryz.zeroValue21
  t37 := Tryz.underlying57
  a37 := Tryz.isAgg57
  z37 := Tryz.sizeOf57
  v37 := Tryz.zeroValue57
  t46 := Tryz.underlying103
  a46 := Tryz.isAgg103
  z46 := Tryz.sizeOf103
  v46 := Tryz.zeroValue103
  t51 := Tryz.underlying145
  a51 := Tryz.isAgg145
  z51 := Tryz.sizeOf145
  v51 := Tryz.zeroValue145 }
open Go.RowKit in
/-- unicode/utf8.appendRuneNonASCII (what AppendRune calls for all but ASCII), ONTO A ROW OF BYTES THAT THE CALL OWNS: every int32 that is no ASCII rune: 'Lib.runeCells r' goes in behind what the row holds. (LAID: no walk: one application.) -/
theorem Tryz.utf8_appendRuneNonASCII_plain (B : Nat) (v : Value) (n : Nat) (xs : List Value) (r : Int) (hr0 : -2147483648 ≤ r) (hr1 : r ≤ 2147483647) (hna : r < 0 ∨ 128 ≤ r) (w : World) (hown : w.ownsRow B 5 1 v n xs) (hlen : n + 4 ≤ 140737488355328) (hBw : B ≤ w.heap.size) :
    Calls Tryz.prog 222 #[v, .int .i32 r] w fun e w' => ∃ v', e = .returned v' ∧ w'.ownsRow B 5 1 v' (n + (Lib.runeCells r).length) (xs ++ Lib.runeCells r) ∧ ∃ o, (w.alloc o).grownBy w' v.ownBlock := Any.utf8_appendRuneNonASCII_plain Tryz.lays278 (by kernel_rfl) B v n xs r hr0 hr1 hna w hown hlen hBw
def Tryz.lays242_ren : Go.Shelf.Ren := ⟨fun | 242 => 210 | 278 => 222 | n => n, fun | 37 => 57 | 21 => 21 | 51 => 145 | 4 => 4 | 5 => 5 | 46 => 103 | n => n, fun | n => n⟩
theorem Tryz.lays242 : Go.Proofs.Lays.n242 Tryz.prog Tryz.lays242_ren := {
  mixed := by kernel_rfl
  f242 := Tryz.func210.trans (congrArg some (by kernel_rfl))
  f278 := Tryz.func222.trans (congrArg some (by kernel_rfl))
  t4 := Tryz.underlying4
  a4 := Tryz.isAgg4
  z4 := Tryz.sizeOf4
  v4 := Tryz.zeroValue4
  t5 := Tryz.underlying5
  a5 := Tryz.isAgg5
  z5 := Tryz.sizeOf5
  v5 := Tryz.zeroValue5
  t21 := Tryz.underlying21
  a21 := Tryz.isAgg21
  z21 := Tryz.sizeOf21
  v21 := Tryz.zeroValue21
  t37 := Tryz.underlying57
  a37 := Tryz.isAgg57
  z37 := Tryz.sizeOf57
  v37 := Tryz.zeroValue57
  t46 := Tryz.underlying103
  a46 := Tryz.isAgg103
  z46 := Tryz.sizeOf103
  v46 := Tryz.zeroValue103
  t51 := Tryz.underlying145
  a51 := Tryz.isAgg145
  z51 := Tryz.sizeOf145
  v51 := Tryz.zeroValue145 }
open Go.RowKit in
/-- unicode/utf8.AppendRune: "AppendRune appends the UTF-8 encoding of r to the end of p and returns the extended buffer. If the rune is out of range, it appends the encoding of RuneError.": ONTO A ROW OF BYTES THAT THE CALL OWNS (its head frozen or not): EVERY int32: 'Lib.runeCells r' goes in behind what the row holds; the world: one new block (the bytes as the call's variadic argument), then what 'append' does to the row. (LAID: no walk: one application.) -/
theorem Tryz.utf8_AppendRune_plain (B : Nat) (v : Value) (n : Nat) (xs : List Value) (r : Int) (hr0 : -2147483648 ≤ r) (hr1 : r ≤ 2147483647) (w : World) (hown : w.ownsRow B 5 1 v n xs) (hlen : n + 4 ≤ 140737488355328) (hBw : B ≤ w.heap.size) :
    Calls Tryz.prog 210 #[v, .int .i32 r] w fun e w' => ∃ v', e = .returned v' ∧ w'.ownsRow B 5 1 v' (n + (Lib.runeCells r).length) (xs ++ Lib.runeCells r) ∧ ∃ o, (w.alloc o).grownBy w' v.ownBlock := Any.utf8_AppendRune_plain Tryz.lays242 (by kernel_rfl) B v n xs r hr0 hr1 w hown hlen hBw
open Go.RowKit in
/-- (*strings.Builder).grow (no doc but "grow copies the buffer to a new, larger buffer so that there are at least n bytes of capacity beyond len(b.buf)."): AT A BUILDER WITHOUT A BUFFER: a new row of whatever bytes for its buffer, none of them its own yet. Three draws. (LAID: no walk: one application.) -/
theorem Tryz.Builder_grow_fresh_cap (B b n : Nat) (w : World) (hB : B ≤ b) (hbk : w.heap[b]? = some (.cells #[.pointer (some ⟨b, 0, none⟩), .slice none 0 0] 109 (0, 0))) (hBw : B ≤ w.heap.size) (hn : n ≤ 281474976710656) :
    Calls Tryz.prog 92 #[.pointer (some ⟨b, 0, none⟩), .int .i64 n] w fun e w' => e = .returned (.tuple #[]) ∧ (Lib.BuilderAt 109 5 B b (.pointer (some ⟨b, 0, none⟩)) [] w' ∧ Below B w w') ∧ ∃ p cap, w'.cell? ⟨b, 1, none⟩ = some (.slice p 0 cap) ∧ n ≤ cap := Any.Builder_grow_fresh_cap Tryz.lays241 Tryz.Builder_Extra_241 B b n w hB hbk hBw hn
open Go.RowKit in
/-- (*strings.Builder).Grow AT A BUILDER THAT HAS NOT BEEN WRITTEN ('var b strings.Builder; b.Grow(n)'): "Grow grows b's capacity, if necessary, to guarantee space for another n bytes.": it holds no byte behind it as before it. (LAID: no walk: one application.) -/
theorem Tryz.Builder_Grow_fresh_cap (B b n : Nat) (w : World) (hB : B ≤ b) (hbk : w.heap[b]? = some (.cells #[.pointer none, .slice none 0 0] 109 (0, 0))) (hBw : B ≤ w.heap.size) (hn : n ≤ 281474976710656) :
    Calls Tryz.prog 50 #[.pointer (some ⟨b, 0, none⟩), .int .i64 n] w fun e w' => e = .returned (.tuple #[]) ∧ (Lib.BuilderAt 109 5 B b (.pointer (some ⟨b, 0, none⟩)) [] w' ∧ Below B w w') ∧ ∃ p cap, w'.cell? ⟨b, 1, none⟩ = some (.slice p 0 cap) ∧ n ≤ cap := Any.Builder_Grow_fresh_cap Tryz.lays165 Tryz.Builder_Extra_165 B b n w hB hbk hBw hn
def Tryz.lays129_ren : Go.Shelf.Ren := ⟨fun | 129 => 161 | n => n, fun | 53 => 148 | 3 => 3 | 4 => 4 | 46 => 103 | 5 => 5 | 9 => 9 | n => n, fun | n => n⟩
theorem Tryz.lays129 : Go.Proofs.Lays.n129 Tryz.prog Tryz.lays129_ren := {
  mixed := by kernel_rfl
  f129 := Tryz.func161.trans (congrArg some (by kernel_rfl))
  t3 := Tryz.underlying3
  a3 := Tryz.isAgg3
  z3 := Tryz.sizeOf3
  v3 := Tryz.zeroValue3
  t4 := Tryz.underlying4
  a4 := Tryz.isAgg4
  z4 := Tryz.sizeOf4
  v4 := Tryz.zeroValue4
  t5 := Tryz.underlying5
  a5 := Tryz.isAgg5
  z5 := Tryz.sizeOf5
  v5 := Tryz.zeroValue5
  t9 := Tryz.underlying9
  a9 := Tryz.isAgg9
  z9 := Tryz.sizeOf9
  v9 := Tryz.zeroValue9
  t46 := Tryz.underlying103
  a46 := Tryz.isAgg103
  z46 := Tryz.sizeOf103
  v46 := Tryz.zeroValue103
  t53 := Tryz.underlying148
  a53 := Tryz.isAgg148
  z53 := Tryz.sizeOf148
  v53 := Tryz.zeroValue148 }
/-- bits.Len64: "Len64 returns the minimum number of bits required to represent x; the result is 0 for x == 0.": IT RETURNS 'Lib.bitLen x'; the world is as it was. ('h0', 'h1': x is a uint64.) (LAID: no walk: one application.) -/
theorem Tryz.bits_Len64 (x : Int) (w : World) (h0 : 0 ≤ x) (h1 : x ≤ 18446744073709551615) :
    Calls Tryz.prog 161 #[.int .u64 x] w fun e w' => e = .returned (.int .i64 (Lib.bitLen x.toNat)) ∧ w' = w := Any.bits_Len64 Tryz.lays129 x w h0 h1
def Tryz.lays217_ren : Go.Shelf.Ren := ⟨fun | 217 => 123 | 266 => 165 | n => n, fun | 9 => 9 | 5 => 5 | 3 => 3 | n => n, fun | n => n⟩
theorem Tryz.lays217 : Go.Proofs.Lays.n217 Tryz.prog Tryz.lays217_ren := {
  mixed := by kernel_rfl
  f217 := Tryz.func123.trans (congrArg some (by kernel_rfl))
  f266 := Tryz.func165.trans (congrArg some (by kernel_rfl))
  t3 := Tryz.underlying3
  a3 := Tryz.isAgg3
  z3 := Tryz.sizeOf3
  v3 := Tryz.zeroValue3
  t5 := Tryz.underlying5
  a5 := Tryz.isAgg5
  z5 := Tryz.sizeOf5
  v5 := Tryz.zeroValue5
  t9 := Tryz.underlying9
  a9 := Tryz.isAgg9
  z9 := Tryz.sizeOf9
  v9 := Tryz.zeroValue9 }
open Go.RowKit Go.Lib in
/-- internal/stringslite.IndexByte (what strings.IndexByte calls): IT RETURNS 'Lib.indexByte s c'; the world is as it was. (LAID: no walk: one application.) -/
theorem Tryz.stringslite_IndexByte (s : ByteArray) (c : Int) (w : World) :
    Calls Tryz.prog 123 #[.string s, .int .u8 c] w fun e w' => e = .returned (.int .i64 (Lib.indexByte s.data.toList c.toNat.toUInt8)) ∧ w' = w := Any.stringslite_IndexByte Tryz.lays217 s c w
def Tryz.lays190_ren : Go.Shelf.Ren := ⟨fun | 190 => 69 | 125 => 113 | 258 => 112 | 128 => 160 | 129 => 161 | 302 => 151 | 303 => 152 | 304 => 153 | 305 => 154 | 306 => 155 | 307 => 156 | 308 => 157 | 309 => 158 | 310 => 159 | 333 => 199 | 329 => 200 | 330 => 201 | 334 => 202 | 335 => 203 | 336 => 204 | 344 => 220 | n => n, fun | 31 => 54 | 9 => 9 | 3 => 3 | 46 => 103 | 0 => 0 | 51 => 145 | 53 => 148 | 4 => 4 | 183 => 218 | 182 => 217 | 131 => 122 | 5 => 5 | 218 => 251 | 222 => 255 | 228 => 275 | 229 => 276 | n => n, fun | n => n⟩
theorem Tryz.lays190 : Go.Proofs.Lays.n190 Tryz.prog Tryz.lays190_ren := {
  mixed := by kernel_rfl
  f125 := Tryz.func113.trans (congrArg some (by kernel_rfl))
  f128 := Tryz.func160.trans (congrArg some (by kernel_rfl))
  f129 := Tryz.func161.trans (congrArg some (by kernel_rfl))
  f190 := Tryz.func69.trans (congrArg some (by kernel_rfl))
  f258 := Tryz.func112.trans (congrArg some (by kernel_rfl))
  f302 := Tryz.func151.trans (congrArg some (by kernel_rfl))
  f303 := Tryz.func152.trans (congrArg some (by kernel_rfl))
  f304 := Tryz.func153.trans (congrArg some (by kernel_rfl))
  f305 := Tryz.func154.trans (congrArg some (by kernel_rfl))
  f306 := Tryz.func155.trans (congrArg some (by kernel_rfl))
  f307 := Tryz.func156.trans (congrArg some (by kernel_rfl))
  f308 := Tryz.func157.trans (congrArg some (by kernel_rfl))
  f309 := Tryz.func158.trans (congrArg some (by kernel_rfl))
  f310 := Tryz.func159.trans (congrArg some (by kernel_rfl))
  f329 := Tryz.func200.trans (congrArg some (by kernel_rfl))
  f330 := Tryz.func201.trans (congrArg some (by kernel_rfl))
  f333 := Tryz.func199.trans (congrArg some (by kernel_rfl))
  f334 := Tryz.func202.trans (congrArg some (by kernel_rfl))
  f335 := Tryz.func203.trans (congrArg some (by kernel_rfl))
  f336 := Tryz.func204.trans (congrArg some (by kernel_rfl))
  f344 := Tryz.func220.trans (congrArg some (by kernel_rfl))
  t0 := Tryz.underlying0
  a0 := Tryz.isAgg0
  z0 := Tryz.sizeOf0
  v0 := Tryz.zeroValue0
  t3 := Tryz.underlying3
  a3 := Tryz.isAgg3
  z3 := Tryz.sizeOf3
  v3 := Tryz.zeroValue3
  t4 := Tryz.underlying4
  a4 := Tryz.isAgg4
  z4 := Tryz.sizeOf4
  v4 := Tryz.zeroValue4
  t5 := Tryz.underlying5
  a5 := Tryz.isAgg5
  z5 := Tryz.sizeOf5
  v5 := Tryz.zeroValue5
  t9 := Tryz.underlying9
  a9 := Tryz.isAgg9
  z9 := Tryz.sizeOf9
  v9 := Tryz.zeroValue9
  t31 := Tryz.underlying54
  a31 := Tryz.isAgg54
  z31 := Tryz.sizeOf54
  v31 := Tryz.zeroValue54
  t46 := Tryz.underlying103
  a46 := Tryz.isAgg103
  z46 := Tryz.sizeOf103
  v46 := Tryz.zeroValue103
  t51 := Tryz.underlying145
  a51 := Tryz.isAgg145
  z51 := Tryz.sizeOf145
  v51 := Tryz.zeroValue145
  t53 := Tryz.underlying148
  a53 := Tryz.isAgg148
  z53 := Tryz.sizeOf148
  v53 := Tryz.zeroValue148
  t131 := Tryz.underlying122
  a131 := Tryz.isAgg122
  z131 := Tryz.sizeOf122
  v131 := Tryz.zeroValue122
  t182 := Tryz.underlying217
  a182 := Tryz.isAgg217
  z182 := Tryz.sizeOf217
  v182 := Tryz.zeroValue217
  t183 := Tryz.underlying218
  a183 := Tryz.isAgg218
  z183 := Tryz.sizeOf218
  v183 := Tryz.zeroValue218
  t218 := Tryz.underlying251
  a218 := Tryz.isAgg251
  z218 := Tryz.sizeOf251
  v218 := Tryz.zeroValue251
  t222 := Tryz.underlying255
  a222 := Tryz.isAgg255
  z222 := Tryz.sizeOf255
  v222 := Tryz.zeroValue255
  t228 := Tryz.underlying275
  a228 := Tryz.isAgg275
  z228 := Tryz.sizeOf275
  v228 := Tryz.zeroValue275
  t229 := Tryz.underlying276
  a229 := Tryz.isAgg276
  z229 := Tryz.sizeOf276
  v229 := Tryz.zeroValue276 }
open Go.Sort Go.RowKit in
theorem Tryz.slices_Sort_string (blk off cap : Nat) (ss : List (List UInt8)) (w : World) (hH : Holds encStr w blk off ss.toArray) (hblk : blk < w.heap.size) (hsz : ss.length < 4611686018427387904) :
    Calls Tryz.prog 69 #[.slice (some ⟨blk, off, none⟩) ss.length cap] w fun e w' =>
      e = .returned (.tuple #[]) ∧ ∃ n os, w' = grow (putRow encStr (Sort.ahead w n) blk off (ss.mergeSort fun x y => decide (x ≤ y)).toArray) os := Any.slices_Sort_string Tryz.lays190 blk off cap ss w hH hblk hsz
def Tryz.laysGg26_ren : Go.Shelf.Ren := ⟨fun | 26 => 183 | n => n, fun | 44 => 212 | 3 => 3 | 0 => 0 | 4 => 4 | 26 => 164 | 37 => 208 | n => n, fun | n => n⟩
theorem Tryz.laysGg26 : Go.Proofs.LaysGg.n26 Tryz.prog Tryz.laysGg26_ren := {
  mixed := by kernel_rfl
  f26 := Tryz.func183.trans (congrArg some (by kernel_rfl))
  t0 := Tryz.underlying0
  a0 := Tryz.isAgg0
  z0 := Tryz.sizeOf0
  v0 := Tryz.zeroValue0
  i0 := by kernel_rfl
  t3 := Tryz.underlying3
  a3 := Tryz.isAgg3
  z3 := Tryz.sizeOf3
  v3 := Tryz.zeroValue3
  i3 := by kernel_rfl
  t4 := Tryz.underlying4
  a4 := Tryz.isAgg4
  z4 := Tryz.sizeOf4
  v4 := Tryz.zeroValue4
  i4 := by kernel_rfl
  t26 := Tryz.underlying164
  a26 := Tryz.isAgg164
  z26 := Tryz.sizeOf164
  v26 := Tryz.zeroValue164
  i26 := by kernel_rfl
  t37 := Tryz.underlying208
  a37 := Tryz.isAgg208
  z37 := Tryz.sizeOf208
  v37 := Tryz.zeroValue208
  i37 := by kernel_rfl
  t44 := Tryz.underlying212
  a44 := Tryz.isAgg212
  z44 := Tryz.sizeOf212
  v44 := Tryz.zeroValue212
  i44 := by kernel_rfl }
open Go.RowKit Go.Lib Go.Sort in
theorem Tryz.insertionSort_func_one {α : Type} [Inhabited α] (enc : α → Value) (lt : α → α → Bool) (g : Nat) (lb : Array Value) (sf : Nat) (sb : Array Value) (blk off a b : Nat) (d : Array α) (w : World) (eg : ∀ args w, (callFunc g args).run Tryz.prog w = .ok (.enter g args) w) (hless : LessReads Tryz.prog g lb enc lt blk off d.size w) (hswap : SwapSwaps Tryz.prog sf sb enc blk off d.size) (hH : Holds enc w blk off d) (hblk : blk < w.heap.size) (hab : a ≤ b) (hb : b ≤ d.size) (hsz : d.size < 4611686018427387904) :
    Calls Tryz.prog 183 #[.agg #[.func (.func g) #[] lb, .func (.func sf) #[] sb], .int .i64 a, .int .i64 b] w fun e w' =>
      e = .returned (.tuple #[]) ∧ ∃ n, w' = putRow enc (Sort.ahead (w.alloc (.cells #[.func (.func g) #[] lb, .func (.func sf) #[] sb] 212)) n) blk off (Sort.insertionSort lt d a b) := Any.insertionSort_func_one Tryz.laysGg26 enc lt g lb sf sb blk off a b d w eg hless hswap hH hblk hab hb hsz
def Tryz.laysGg14_ren : Go.Shelf.Ren := ⟨fun | 14 => 139 | 26 => 183 | 27 => 184 | 28 => 185 | 29 => 186 | 30 => 187 | 31 => 188 | 32 => 189 | 33 => 190 | 34 => 211 | 35 => 212 | 36 => 213 | 37 => 214 | 38 => 215 | 13 => 113 | 39 => 223 | 24 => 160 | 25 => 161 | n => n, fun | 44 => 212 | 3 => 3 | 0 => 0 | 4 => 4 | 54 => 241 | 53 => 240 | 26 => 164 | 58 => 122 | 37 => 208 | 60 => 261 | 41 => 103 | 51 => 148 | 64 => 255 | 66 => 279 | 67 => 276 | 49 => 145 | 5 => 5 | 9 => 9 | n => n, fun | n => n⟩
theorem Tryz.laysGg14 : Go.Proofs.LaysGg.n14 Tryz.prog Tryz.laysGg14_ren := {
  mixed := by kernel_rfl
  f13 := Tryz.func113.trans (congrArg some (by kernel_rfl))
  f14 := Tryz.func139.trans (congrArg some (by kernel_rfl))
  f24 := Tryz.func160.trans (congrArg some (by kernel_rfl))
  f25 := Tryz.func161.trans (congrArg some (by kernel_rfl))
  f26 := Tryz.func183.trans (congrArg some (by kernel_rfl))
  f27 := Tryz.func184.trans (congrArg some (by kernel_rfl))
  f28 := Tryz.func185.trans (congrArg some (by kernel_rfl))
  f29 := Tryz.func186.trans (congrArg some (by kernel_rfl))
  f30 := Tryz.func187.trans (congrArg some (by kernel_rfl))
  f31 := Tryz.func188.trans (congrArg some (by kernel_rfl))
  f32 := Tryz.func189.trans (congrArg some (by kernel_rfl))
  f33 := Tryz.func190.trans (congrArg some (by kernel_rfl))
  f34 := Tryz.func211.trans (congrArg some (by kernel_rfl))
  f35 := Tryz.func212.trans (congrArg some (by kernel_rfl))
  f36 := Tryz.func213.trans (congrArg some (by kernel_rfl))
  f37 := Tryz.func214.trans (congrArg some (by kernel_rfl))
  f38 := Tryz.func215.trans (congrArg some (by kernel_rfl))
  f39 := Tryz.func223.trans (congrArg some (by kernel_rfl))
  t0 := Tryz.underlying0
  a0 := Tryz.isAgg0
  z0 := Tryz.sizeOf0
  v0 := Tryz.zeroValue0
  i0 := by kernel_rfl
  t3 := Tryz.underlying3
  a3 := Tryz.isAgg3
  z3 := Tryz.sizeOf3
  v3 := Tryz.zeroValue3
  i3 := by kernel_rfl
  t4 := Tryz.underlying4
  a4 := Tryz.isAgg4
  z4 := Tryz.sizeOf4
  v4 := Tryz.zeroValue4
  i4 := by kernel_rfl
  t5 := Tryz.underlying5
  a5 := Tryz.isAgg5
  z5 := Tryz.sizeOf5
  v5 := Tryz.zeroValue5
  i5 := by kernel_rfl
  t9 := Tryz.underlying9
  a9 := Tryz.isAgg9
  z9 := Tryz.sizeOf9
  v9 := Tryz.zeroValue9
  i9 := by kernel_rfl
  t26 := Tryz.underlying164
  a26 := Tryz.isAgg164
  z26 := Tryz.sizeOf164
  v26 := Tryz.zeroValue164
  i26 := by kernel_rfl
  t37 := Tryz.underlying208
  a37 := Tryz.isAgg208
  z37 := Tryz.sizeOf208
  v37 := Tryz.zeroValue208
  i37 := by kernel_rfl
  t41 := Tryz.underlying103
  a41 := Tryz.isAgg103
  z41 := Tryz.sizeOf103
  v41 := Tryz.zeroValue103
  i41 := by kernel_rfl
  t44 := Tryz.underlying212
  a44 := Tryz.isAgg212
  z44 := Tryz.sizeOf212
  v44 := Tryz.zeroValue212
  i44 := by kernel_rfl
  t49 := Tryz.underlying145
  a49 := Tryz.isAgg145
  z49 := Tryz.sizeOf145
  v49 := Tryz.zeroValue145
  i49 := by kernel_rfl
  t51 := Tryz.underlying148
  a51 := Tryz.isAgg148
  z51 := Tryz.sizeOf148
  v51 := Tryz.zeroValue148
  i51 := by kernel_rfl
  t53 := Tryz.underlying240
  a53 := Tryz.isAgg240
  z53 := Tryz.sizeOf240
  v53 := Tryz.zeroValue240
  i53 := by kernel_rfl
  t54 := Tryz.underlying241
  a54 := Tryz.isAgg241
  z54 := Tryz.sizeOf241
  v54 := Tryz.zeroValue241
  i54 := by kernel_rfl
  t58 := Tryz.underlying122
  a58 := Tryz.isAgg122
  z58 := Tryz.sizeOf122
  v58 := Tryz.zeroValue122
  i58 := by kernel_rfl
  t60 := Tryz.underlying261
  a60 := Tryz.isAgg261
  z60 := Tryz.sizeOf261
  v60 := Tryz.zeroValue261
  i60 := by kernel_rfl
  t64 := Tryz.underlying255
  a64 := Tryz.isAgg255
  z64 := Tryz.sizeOf255
  v64 := Tryz.zeroValue255
  i64 := by kernel_rfl
  t66 := Tryz.underlying279
  a66 := Tryz.isAgg279
  z66 := Tryz.sizeOf279
  v66 := Tryz.zeroValue279
  i66 := by kernel_rfl
  t67 := Tryz.underlying276
  a67 := Tryz.isAgg276
  z67 := Tryz.sizeOf276
  v67 := Tryz.zeroValue276
  i67 := by kernel_rfl }
open Go.RowKit Go.Lib Go.Sort in
/-- sort.pdqsort_func AT A RANGE OF AT MOST 12. (LAID: no walk: one application.) -/
theorem Tryz.pdqsort_func_small {α : Type} [Inhabited α] (enc : α → Value) (lt : α → α → Bool) (g : Nat) (lb : Array Value) (sf : Nat) (sb : Array Value) (blk off a b : Nat) (lim : Int) (d : Array α) (w : World) (eg : ∀ args w, (callFunc g args).run Tryz.prog w = .ok (.enter g args) w) (hless : LessReads Tryz.prog g lb enc lt blk off d.size w) (hswap : SwapSwaps Tryz.prog sf sb enc blk off d.size) (hH : Holds enc w blk off d) (hblk : blk < w.heap.size) (hab : a ≤ b) (hb : b ≤ d.size) (hsz : d.size < 4611686018427387904) (h12 : b - a ≤ 12) :
    Calls Tryz.prog 139 #[.agg #[.func (.func g) #[] lb, .func (.func sf) #[] sb], .int .i64 a, .int .i64 b, .int .i64 lim] w fun e w' =>
      e = .returned (.tuple #[]) ∧ ∃ n, w' = putRow enc (Sort.ahead ((w.alloc (.cells #[.func (.func g) #[] lb, .func (.func sf) #[] sb] 212)).alloc (.cells #[.func (.func g) #[] lb, .func (.func sf) #[] sb] 212)) n) blk off (Sort.insertionSort lt d a b) := Any.pdqsort_func_small Tryz.laysGg14 enc lt g lb sf sb blk off a b lim d w eg hless hswap hH hblk hab hb hsz h12
def Tryz.laysGg6_ren : Go.Shelf.Ren := ⟨fun | 6 => 99 | 10 => 136 | 11 => 137 | 12 => 138 | 13 => 113 | 14 => 139 | 24 => 160 | 25 => 161 | 26 => 183 | 27 => 184 | 28 => 185 | 29 => 186 | 30 => 187 | 31 => 188 | 32 => 189 | 33 => 190 | 34 => 211 | 35 => 212 | 36 => 213 | 37 => 214 | 38 => 215 | 39 => 223 | n => n, fun | 20 => 20 | 26 => 164 | 35 => 206 | 0 => 0 | 37 => 208 | 3 => 3 | 41 => 103 | 44 => 212 | 49 => 145 | 51 => 148 | 4 => 4 | 54 => 241 | 53 => 240 | 58 => 122 | 5 => 5 | 9 => 9 | 60 => 261 | 64 => 255 | 66 => 279 | 67 => 276 | 17 => 17 | 32 => 193 | 33 => 204 | 82 => 294 | 12 => 12 | 75 => 288 | 76 => 289 | 77 => 290 | 78 => 151 | 79 => 291 | 80 => 292 | n => n, fun | n => n⟩
theorem Tryz.laysGg6 : Go.Proofs.LaysGg.n6 Tryz.prog Tryz.laysGg6_ren := {
  mixed := by kernel_rfl
  f6 := Tryz.func99.trans (congrArg some (by kernel_rfl))
  f10 := Tryz.func136.trans (congrArg some (by kernel_rfl))
  f11 := Tryz.func137.trans (congrArg some (by kernel_rfl))
  f12 := Tryz.func138.trans (congrArg some (by kernel_rfl))
  f13 := Tryz.func113.trans (congrArg some (by kernel_rfl))
  f14 := Tryz.func139.trans (congrArg some (by kernel_rfl))
  f24 := Tryz.func160.trans (congrArg some (by kernel_rfl))
  f25 := Tryz.func161.trans (congrArg some (by kernel_rfl))
  f26 := Tryz.func183.trans (congrArg some (by kernel_rfl))
  f27 := Tryz.func184.trans (congrArg some (by kernel_rfl))
  f28 := Tryz.func185.trans (congrArg some (by kernel_rfl))
  f29 := Tryz.func186.trans (congrArg some (by kernel_rfl))
  f30 := Tryz.func187.trans (congrArg some (by kernel_rfl))
  f31 := Tryz.func188.trans (congrArg some (by kernel_rfl))
  f32 := Tryz.func189.trans (congrArg some (by kernel_rfl))
  f33 := Tryz.func190.trans (congrArg some (by kernel_rfl))
  f34 := Tryz.func211.trans (congrArg some (by kernel_rfl))
  f35 := Tryz.func212.trans (congrArg some (by kernel_rfl))
  f36 := Tryz.func213.trans (congrArg some (by kernel_rfl))
  f37 := Tryz.func214.trans (congrArg some (by kernel_rfl))
  f38 := Tryz.func215.trans (congrArg some (by kernel_rfl))
  f39 := Tryz.func223.trans (congrArg some (by kernel_rfl))
  t0 := Tryz.underlying0
  a0 := Tryz.isAgg0
  z0 := Tryz.sizeOf0
  v0 := Tryz.zeroValue0
  i0 := by kernel_rfl
  t3 := Tryz.underlying3
  a3 := Tryz.isAgg3
  z3 := Tryz.sizeOf3
  v3 := Tryz.zeroValue3
  i3 := by kernel_rfl
  t4 := Tryz.underlying4
  a4 := Tryz.isAgg4
  z4 := Tryz.sizeOf4
  v4 := Tryz.zeroValue4
  i4 := by kernel_rfl
  t5 := Tryz.underlying5
  a5 := Tryz.isAgg5
  z5 := Tryz.sizeOf5
  v5 := Tryz.zeroValue5
  i5 := by kernel_rfl
  t9 := Tryz.underlying9
  a9 := Tryz.isAgg9
  z9 := Tryz.sizeOf9
  v9 := Tryz.zeroValue9
  i9 := by kernel_rfl
  t12 := Tryz.underlying12
  a12 := Tryz.isAgg12
  z12 := Tryz.sizeOf12
  v12 := Tryz.zeroValue12
  i12 := by kernel_rfl
  t17 := Tryz.underlying17
  a17 := Tryz.isAgg17
  z17 := Tryz.sizeOf17
  v17 := Tryz.zeroValue17
  i17 := by kernel_rfl
  t20 := Tryz.underlying20
  a20 := Tryz.isAgg20
  z20 := Tryz.sizeOf20
  v20 := Tryz.zeroValue20
  i20 := by kernel_rfl
  t26 := Tryz.underlying164
  a26 := Tryz.isAgg164
  z26 := Tryz.sizeOf164
  v26 := Tryz.zeroValue164
  i26 := by kernel_rfl
  t32 := Tryz.underlying193
  a32 := Tryz.isAgg193
  z32 := Tryz.sizeOf193
  v32 := Tryz.zeroValue193
  i32 := by kernel_rfl
  t33 := Tryz.underlying204
  a33 := Tryz.isAgg204
  z33 := Tryz.sizeOf204
  v33 := Tryz.zeroValue204
  i33 := by kernel_rfl
  t35 := Tryz.underlying206
  a35 := Tryz.isAgg206
  z35 := Tryz.sizeOf206
  v35 := Tryz.zeroValue206
  i35 := by kernel_rfl
  t37 := Tryz.underlying208
  a37 := Tryz.isAgg208
  z37 := Tryz.sizeOf208
  v37 := Tryz.zeroValue208
  i37 := by kernel_rfl
  t41 := Tryz.underlying103
  a41 := Tryz.isAgg103
  z41 := Tryz.sizeOf103
  v41 := Tryz.zeroValue103
  i41 := by kernel_rfl
  t44 := Tryz.underlying212
  a44 := Tryz.isAgg212
  z44 := Tryz.sizeOf212
  v44 := Tryz.zeroValue212
  i44 := by kernel_rfl
  t49 := Tryz.underlying145
  a49 := Tryz.isAgg145
  z49 := Tryz.sizeOf145
  v49 := Tryz.zeroValue145
  i49 := by kernel_rfl
  t51 := Tryz.underlying148
  a51 := Tryz.isAgg148
  z51 := Tryz.sizeOf148
  v51 := Tryz.zeroValue148
  i51 := by kernel_rfl
  t53 := Tryz.underlying240
  a53 := Tryz.isAgg240
  z53 := Tryz.sizeOf240
  v53 := Tryz.zeroValue240
  i53 := by kernel_rfl
  t54 := Tryz.underlying241
  a54 := Tryz.isAgg241
  z54 := Tryz.sizeOf241
  v54 := Tryz.zeroValue241
  i54 := by kernel_rfl
  t58 := Tryz.underlying122
  a58 := Tryz.isAgg122
  z58 := Tryz.sizeOf122
  v58 := Tryz.zeroValue122
  i58 := by kernel_rfl
  t60 := Tryz.underlying261
  a60 := Tryz.isAgg261
  z60 := Tryz.sizeOf261
  v60 := Tryz.zeroValue261
  i60 := by kernel_rfl
  t64 := Tryz.underlying255
  a64 := Tryz.isAgg255
  z64 := Tryz.sizeOf255
  v64 := Tryz.zeroValue255
  i64 := by kernel_rfl
  t66 := Tryz.underlying279
  a66 := Tryz.isAgg279
  z66 := Tryz.sizeOf279
  v66 := Tryz.zeroValue279
  i66 := by kernel_rfl
  t67 := Tryz.underlying276
  a67 := Tryz.isAgg276
  z67 := Tryz.sizeOf276
  v67 := Tryz.zeroValue276
  i67 := by kernel_rfl
  t75 := Tryz.underlying288
  a75 := Tryz.isAgg288
  z75 := Tryz.sizeOf288
  v75 := Tryz.zeroValue288
  i75 := by kernel_rfl
  t76 := Tryz.underlying289
  a76 := Tryz.isAgg289
  z76 := Tryz.sizeOf289
  v76 := Tryz.zeroValue289
  i76 := by kernel_rfl
  t77 := Tryz.underlying290
  a77 := Tryz.isAgg290
  z77 := Tryz.sizeOf290
  v77 := Tryz.zeroValue290
  i77 := by kernel_rfl
  t78 := Tryz.underlying151
  a78 := Tryz.isAgg151
  z78 := Tryz.sizeOf151
  v78 := Tryz.zeroValue151
  i78 := by kernel_rfl
  t79 := Tryz.underlying291
  a79 := Tryz.isAgg291
  z79 := Tryz.sizeOf291
  v79 := Tryz.zeroValue291
  i79 := by kernel_rfl
  t80 := Tryz.underlying292
  a80 := Tryz.isAgg292
  z80 := Tryz.sizeOf292
  v80 := Tryz.zeroValue292
  i80 := by kernel_rfl
  t82 := Tryz.underlying294
  a82 := Tryz.isAgg294
  z82 := Tryz.sizeOf294
  v82 := Tryz.zeroValue294
  i82 := by kernel_rfl }
open Go.RowKit Go.Lib Go.Sort in
theorem Tryz.insertionSort_func_cells {α : Type} [Inhabited α] (enc : α → List Value) (k : Nat) (hk : ∀ x, (enc x).length = k) (lt : α → α → Bool) (g : Nat) (lb : Array Value) (sf : Nat) (sb : Array Value) (blk off a b : Nat) (d : Array α) (w : World) (eg : ∀ args w, (callFunc g args).run Tryz.prog w = .ok (.enter g args) w) (hless : LessReadsK Tryz.prog g lb enc k lt blk off d.size w) (hswap : SwapSwapsK Tryz.prog sf sb enc k blk off d.size) (hH : HoldsK enc k w blk off d) (hblk : blk < w.heap.size) (hab : a ≤ b) (hb : b ≤ d.size) (hsz : d.size < 4611686018427387904) :
    Calls Tryz.prog 183 #[.agg #[.func (.func g) #[] lb, .func (.func sf) #[] sb], .int .i64 a, .int .i64 b] w fun e w' =>
      e = .returned (.tuple #[]) ∧ ∃ n, w' = putRowK enc k (Sort.ahead (w.alloc (.cells #[.func (.func g) #[] lb, .func (.func sf) #[] sb] 212)) n) blk off (Sort.insertionSort lt d a b) := Any.insertionSort_func_cells Tryz.laysGg26 enc k hk lt g lb sf sb blk off a b d w eg hless hswap hH hblk hab hb hsz
open Go.RowKit Go.Lib Go.Sort in
/-- sort.pdqsort_func AT A RANGE OF AT MOST 12. (LAID: no walk: one application.) -/
theorem Tryz.pdqsort_func_small_cells {α : Type} [Inhabited α] (enc : α → List Value) (k : Nat) (hk : ∀ x, (enc x).length = k) (lt : α → α → Bool) (g : Nat) (lb : Array Value) (sf : Nat) (sb : Array Value) (blk off a b : Nat) (lim : Int) (d : Array α) (w : World) (eg : ∀ args w, (callFunc g args).run Tryz.prog w = .ok (.enter g args) w) (hless : LessReadsK Tryz.prog g lb enc k lt blk off d.size w) (hswap : SwapSwapsK Tryz.prog sf sb enc k blk off d.size) (hH : HoldsK enc k w blk off d) (hblk : blk < w.heap.size) (hab : a ≤ b) (hb : b ≤ d.size) (hsz : d.size < 4611686018427387904) (h12 : b - a ≤ 12) :
    Calls Tryz.prog 139 #[.agg #[.func (.func g) #[] lb, .func (.func sf) #[] sb], .int .i64 a, .int .i64 b, .int .i64 lim] w fun e w' =>
      e = .returned (.tuple #[]) ∧ ∃ n, w' = putRowK enc k (Sort.ahead ((w.alloc (.cells #[.func (.func g) #[] lb, .func (.func sf) #[] sb] 212)).alloc (.cells #[.func (.func g) #[] lb, .func (.func sf) #[] sb] 212)) n) blk off (Sort.insertionSort lt d a b) := Any.pdqsort_func_small_cells Tryz.laysGg14 enc k hk lt g lb sf sb blk off a b lim d w eg hless hswap hH hblk hab hb hsz h12
open Go.RowKit Go.Lib Go.Sort in
theorem Tryz.insertionSort_func_none (lf : Fn) (la lb : Array Value) (f : Nat) (sb : Array Value) (a b : Nat) (h : b ≤ a + 1) (ha : a < 4611686018427387904) (w : World) :
    Calls Tryz.prog 183 #[.agg #[.func lf la lb, .func (.func f) #[] sb], .int .i64 a, .int .i64 b] w fun e w' => e = .returned (.tuple #[]) ∧ w' = w.alloc (.cells #[.func lf la lb, .func (.func f) #[] sb] 212) := Any.insertionSort_func_none Tryz.laysGg26 lf la lb f sb a b h ha w
open Go.RowKit Go.Lib Go.Sort in
theorem Tryz.pdqsort_func_tiny (lf : Fn) (la lb : Array Value) (f : Nat) (sb : Array Value) (n : Nat) (h : n ≤ 1) (lim : Int) (w : World) :
    Calls Tryz.prog 139 #[.agg #[.func lf la lb, .func (.func f) #[] sb], .int .i64 0, .int .i64 n, .int .i64 lim] w fun e w' => e = .returned (.tuple #[]) ∧ w' = (w.alloc (.cells #[.func lf la lb, .func (.func f) #[] sb] 212)).alloc (.cells #[.func lf la lb, .func (.func f) #[] sb] 212) := Any.pdqsort_func_tiny Tryz.laysGg14 lf la lb f sb n h lim w
open Go.RowKit Go.Lib Go.Sort in
/-- sort.insertionSort_func, from a world to a 'sortWorld' of it. (LAID: no walk: one application.) -/
theorem Tryz.insertionSort_func_w {α : Type} [Inhabited α] (enc : α → Value) (lt : α → α → Bool) (g : Nat) (lb : Array Value) (sf : Nat) (sb : Array Value) (blk off a b : Nat) (d : Array α) (w : World) (eg : ∀ args w, (callFunc g args).run Tryz.prog w = .ok (.enter g args) w) (hless : LessReads Tryz.prog g lb enc lt blk off d.size w) (hswap : SwapSwaps Tryz.prog sf sb enc blk off d.size) (hH : Holds enc w blk off d) (hblk : blk < w.heap.size) (hab : a ≤ b) (hb : b ≤ d.size) (hsz : d.size < 4611686018427387904) :
    Calls Tryz.prog 183 #[.agg #[.func (.func g) #[] lb, .func (.func sf) #[] sb], .int .i64 a, .int .i64 b] w fun e w' => e = .returned (.tuple #[]) ∧ ∃ n os, w' = sortWorld enc w blk off n (Sort.insertionSort lt d a b) os := Any.insertionSort_func_w Tryz.laysGg26 enc lt g lb sf sb blk off a b d w eg hless hswap hH hblk hab hb hsz
def Tryz.laysGg30_ren : Go.Shelf.Ren := ⟨fun | 30 => 187 | n => n, fun | 44 => 212 | 3 => 3 | 0 => 0 | 4 => 4 | 37 => 208 | 26 => 164 | n => n, fun | n => n⟩
theorem Tryz.laysGg30 : Go.Proofs.LaysGg.n30 Tryz.prog Tryz.laysGg30_ren := {
  mixed := by kernel_rfl
  f30 := Tryz.func187.trans (congrArg some (by kernel_rfl))
  t0 := Tryz.underlying0
  a0 := Tryz.isAgg0
  z0 := Tryz.sizeOf0
  v0 := Tryz.zeroValue0
  i0 := by kernel_rfl
  t3 := Tryz.underlying3
  a3 := Tryz.isAgg3
  z3 := Tryz.sizeOf3
  v3 := Tryz.zeroValue3
  i3 := by kernel_rfl
  t4 := Tryz.underlying4
  a4 := Tryz.isAgg4
  z4 := Tryz.sizeOf4
  v4 := Tryz.zeroValue4
  i4 := by kernel_rfl
  t26 := Tryz.underlying164
  a26 := Tryz.isAgg164
  z26 := Tryz.sizeOf164
  v26 := Tryz.zeroValue164
  i26 := by kernel_rfl
  t37 := Tryz.underlying208
  a37 := Tryz.isAgg208
  z37 := Tryz.sizeOf208
  v37 := Tryz.zeroValue208
  i37 := by kernel_rfl
  t44 := Tryz.underlying212
  a44 := Tryz.isAgg212
  z44 := Tryz.sizeOf212
  v44 := Tryz.zeroValue212
  i44 := by kernel_rfl }
open Go.RowKit Go.Lib Go.Sort in
theorem Tryz.reverseRange_func_one {α : Type} [Inhabited α] (enc : α → Value) (lf : Fn) (la lb : Array Value) (sf : Nat) (sb : Array Value) (blk off a b : Nat) (d : Array α) (w : World) (hswap : SwapSwaps Tryz.prog sf sb enc blk off d.size) (hH : Holds enc w blk off d) (hblk : blk < w.heap.size) (hab : a ≤ b) (hb : b ≤ d.size) (hsz : d.size < 4611686018427387904) :
    Calls Tryz.prog 187 #[.agg #[.func lf la lb, .func (.func sf) #[] sb], .int .i64 a, .int .i64 b] w fun e w' => e = .returned (.tuple #[]) ∧ ∃ n, w' = putRow enc (Sort.ahead (w.alloc (.cells #[.func lf la lb, .func (.func sf) #[] sb] 212)) n) blk off (reverseRange d a b) := Any.reverseRange_func_one Tryz.laysGg30 enc lf la lb sf sb blk off a b d w hswap hH hblk hab hb hsz
open Go.RowKit Go.Lib Go.Sort in
/-- sort.reverseRange_func, from a world to a 'sortWorld' of it. (LAID: no walk: one application.) -/
theorem Tryz.reverseRange_func_w {α : Type} [Inhabited α] (enc : α → Value) (lf : Fn) (la lb : Array Value) (sf : Nat) (sb : Array Value) (blk off a b : Nat) (d : Array α) (w : World) (hswap : SwapSwaps Tryz.prog sf sb enc blk off d.size) (hH : Holds enc w blk off d) (hblk : blk < w.heap.size) (hab : a ≤ b) (hb : b ≤ d.size) (hsz : d.size < 4611686018427387904) :
    Calls Tryz.prog 187 #[.agg #[.func lf la lb, .func (.func sf) #[] sb], .int .i64 a, .int .i64 b] w fun e w' => e = .returned (.tuple #[]) ∧ ∃ n os, w' = sortWorld enc w blk off n (reverseRange d a b) os := Any.reverseRange_func_w Tryz.laysGg30 enc lf la lb sf sb blk off a b d w hswap hH hblk hab hb hsz
def Tryz.laysGg39_ren : Go.Shelf.Ren := ⟨fun | 39 => 223 | n => n, fun | 44 => 212 | 3 => 3 | 64 => 255 | 0 => 0 | 26 => 164 | 4 => 4 | 37 => 208 | n => n, fun | n => n⟩
theorem Tryz.laysGg39 : Go.Proofs.LaysGg.n39 Tryz.prog Tryz.laysGg39_ren := {
  mixed := by kernel_rfl
  f39 := Tryz.func223.trans (congrArg some (by kernel_rfl))
  t0 := Tryz.underlying0
  a0 := Tryz.isAgg0
  z0 := Tryz.sizeOf0
  v0 := Tryz.zeroValue0
  i0 := by kernel_rfl
  t3 := Tryz.underlying3
  a3 := Tryz.isAgg3
  z3 := Tryz.sizeOf3
  v3 := Tryz.zeroValue3
  i3 := by kernel_rfl
  t4 := Tryz.underlying4
  a4 := Tryz.isAgg4
  z4 := Tryz.sizeOf4
  v4 := Tryz.zeroValue4
  i4 := by kernel_rfl
  t26 := Tryz.underlying164
  a26 := Tryz.isAgg164
  z26 := Tryz.sizeOf164
  v26 := Tryz.zeroValue164
  i26 := by kernel_rfl
  t37 := Tryz.underlying208
  a37 := Tryz.isAgg208
  z37 := Tryz.sizeOf208
  v37 := Tryz.zeroValue208
  i37 := by kernel_rfl
  t44 := Tryz.underlying212
  a44 := Tryz.isAgg212
  z44 := Tryz.sizeOf212
  v44 := Tryz.zeroValue212
  i44 := by kernel_rfl
  t64 := Tryz.underlying255
  a64 := Tryz.isAgg255
  z64 := Tryz.sizeOf255
  v64 := Tryz.zeroValue255
  i64 := by kernel_rfl }
open Go.RowKit Go.Lib Go.Sort in
theorem Tryz.order2_func {α : Type} [Inhabited α] (enc : α → Value) (lt : α → α → Bool) (g : Nat) (lb : Array Value) (sfn : Fn) (sa sb : Array Value) (blk off : Nat) (w0 W : World) (d : Array α) (a b cb co s : Nat) (eg : ∀ args w, (callFunc g args).run Tryz.prog w = .ok (.enter g args) w) (hL : LessReads Tryz.prog g lb enc lt blk off d.size w0) (hW : SW enc w0 blk off d W) (ha : a < d.size) (hb : b < d.size) (hS : Holds (Value.int .i64) W cb co (one s)) (hcb : cb < W.heap.size) (hs : s < 4611686018427387904) :
    Calls Tryz.prog 223 #[.agg #[.func (.func g) #[] lb, .func sfn sa sb], .int .i64 a, .int .i64 b, .pointer (some ⟨cb, co, none⟩)] W fun e w' =>
      e = .returned (.tuple #[.int .i64 (order2 lt d a b s).1, .int .i64 (order2 lt d a b s).2.1]) ∧ ∃ n os, w' = sortWorld (Value.int .i64) W cb co n (one (order2 lt d a b s).2.2) os := Any.order2_func Tryz.laysGg39 enc lt g lb sfn sa sb blk off w0 W d a b cb co s eg hL hW ha hb hS hcb hs
def Tryz.laysGg38_ren : Go.Shelf.Ren := ⟨fun | 38 => 215 | 39 => 223 | n => n, fun | 44 => 212 | 3 => 3 | 64 => 255 | 0 => 0 | 67 => 276 | 26 => 164 | 4 => 4 | 37 => 208 | n => n, fun | n => n⟩
theorem Tryz.laysGg38 : Go.Proofs.LaysGg.n38 Tryz.prog Tryz.laysGg38_ren := {
  mixed := by kernel_rfl
  f38 := Tryz.func215.trans (congrArg some (by kernel_rfl))
  f39 := Tryz.func223.trans (congrArg some (by kernel_rfl))
  t0 := Tryz.underlying0
  a0 := Tryz.isAgg0
  z0 := Tryz.sizeOf0
  v0 := Tryz.zeroValue0
  i0 := by kernel_rfl
  t3 := Tryz.underlying3
  a3 := Tryz.isAgg3
  z3 := Tryz.sizeOf3
  v3 := Tryz.zeroValue3
  i3 := by kernel_rfl
  t4 := Tryz.underlying4
  a4 := Tryz.isAgg4
  z4 := Tryz.sizeOf4
  v4 := Tryz.zeroValue4
  i4 := by kernel_rfl
  t26 := Tryz.underlying164
  a26 := Tryz.isAgg164
  z26 := Tryz.sizeOf164
  v26 := Tryz.zeroValue164
  i26 := by kernel_rfl
  t37 := Tryz.underlying208
  a37 := Tryz.isAgg208
  z37 := Tryz.sizeOf208
  v37 := Tryz.zeroValue208
  i37 := by kernel_rfl
  t44 := Tryz.underlying212
  a44 := Tryz.isAgg212
  z44 := Tryz.sizeOf212
  v44 := Tryz.zeroValue212
  i44 := by kernel_rfl
  t64 := Tryz.underlying255
  a64 := Tryz.isAgg255
  z64 := Tryz.sizeOf255
  v64 := Tryz.zeroValue255
  i64 := by kernel_rfl
  t67 := Tryz.underlying276
  a67 := Tryz.isAgg276
  z67 := Tryz.sizeOf276
  v67 := Tryz.zeroValue276
  i67 := by kernel_rfl }
open Go.RowKit Go.Lib Go.Sort in
theorem Tryz.median_func {α : Type} [Inhabited α] (enc : α → Value) (lt : α → α → Bool) (g : Nat) (lb : Array Value) (sfn : Fn) (sa sb : Array Value) (blk off : Nat) (w0 W : World) (d : Array α) (a b c cb co s : Nat) (eg : ∀ args w, (callFunc g args).run Tryz.prog w = .ok (.enter g args) w) (hL : LessReads Tryz.prog g lb enc lt blk off d.size w0) (hW : SW enc w0 blk off d W) (ha : a < d.size) (hb : b < d.size) (hc : c < d.size) (hS : Holds (Value.int .i64) W cb co (one s)) (hcb0 : w0.heap.size ≤ cb) (hcb : cb < W.heap.size) (hs : s + 3 < 4611686018427387904) :
    Calls Tryz.prog 215 #[.agg #[.func (.func g) #[] lb, .func sfn sa sb], .int .i64 a, .int .i64 b, .int .i64 c, .pointer (some ⟨cb, co, none⟩)] W fun e w' =>
      e = .returned (.int .i64 (median lt d a b c s).1) ∧ ∃ n os, w' = sortWorld (Value.int .i64) W cb co n (one (median lt d a b c s).2) os := Any.median_func Tryz.laysGg38 enc lt g lb sfn sa sb blk off w0 W d a b c cb co s eg hL hW ha hb hc hS hcb0 hcb hs
def Tryz.laysGg37_ren : Go.Shelf.Ren := ⟨fun | 37 => 214 | 38 => 215 | 39 => 223 | n => n, fun | 44 => 212 | 3 => 3 | 64 => 255 | 0 => 0 | 67 => 276 | 26 => 164 | 4 => 4 | 37 => 208 | n => n, fun | n => n⟩
theorem Tryz.laysGg37 : Go.Proofs.LaysGg.n37 Tryz.prog Tryz.laysGg37_ren := {
  mixed := by kernel_rfl
  f37 := Tryz.func214.trans (congrArg some (by kernel_rfl))
  f38 := Tryz.func215.trans (congrArg some (by kernel_rfl))
  f39 := Tryz.func223.trans (congrArg some (by kernel_rfl))
  t0 := Tryz.underlying0
  a0 := Tryz.isAgg0
  z0 := Tryz.sizeOf0
  v0 := Tryz.zeroValue0
  i0 := by kernel_rfl
  t3 := Tryz.underlying3
  a3 := Tryz.isAgg3
  z3 := Tryz.sizeOf3
  v3 := Tryz.zeroValue3
  i3 := by kernel_rfl
  t4 := Tryz.underlying4
  a4 := Tryz.isAgg4
  z4 := Tryz.sizeOf4
  v4 := Tryz.zeroValue4
  i4 := by kernel_rfl
  t26 := Tryz.underlying164
  a26 := Tryz.isAgg164
  z26 := Tryz.sizeOf164
  v26 := Tryz.zeroValue164
  i26 := by kernel_rfl
  t37 := Tryz.underlying208
  a37 := Tryz.isAgg208
  z37 := Tryz.sizeOf208
  v37 := Tryz.zeroValue208
  i37 := by kernel_rfl
  t44 := Tryz.underlying212
  a44 := Tryz.isAgg212
  z44 := Tryz.sizeOf212
  v44 := Tryz.zeroValue212
  i44 := by kernel_rfl
  t64 := Tryz.underlying255
  a64 := Tryz.isAgg255
  z64 := Tryz.sizeOf255
  v64 := Tryz.zeroValue255
  i64 := by kernel_rfl
  t67 := Tryz.underlying276
  a67 := Tryz.isAgg276
  z67 := Tryz.sizeOf276
  v67 := Tryz.zeroValue276
  i67 := by kernel_rfl }
open Go.RowKit Go.Lib Go.Sort in
theorem Tryz.medianAdjacent_func {α : Type} [Inhabited α] (enc : α → Value) (lt : α → α → Bool) (g : Nat) (lb : Array Value) (sfn : Fn) (sa sb : Array Value) (blk off : Nat) (w0 W : World) (d : Array α) (a cb co s : Nat) (eg : ∀ args w, (callFunc g args).run Tryz.prog w = .ok (.enter g args) w) (hL : LessReads Tryz.prog g lb enc lt blk off d.size w0) (hW : SW enc w0 blk off d W) (ha1 : 1 ≤ a) (ha2 : a + 1 < d.size) (hsz : d.size < 4611686018427387904) (hS : Holds (Value.int .i64) W cb co (one s)) (hcb0 : w0.heap.size ≤ cb) (hcb : cb < W.heap.size) (hs : s + 3 < 4611686018427387904) :
    Calls Tryz.prog 214 #[.agg #[.func (.func g) #[] lb, .func sfn sa sb], .int .i64 a, .pointer (some ⟨cb, co, none⟩)] W fun e w' =>
      e = .returned (.int .i64 (medianAdjacent lt d a s).1) ∧ ∃ n os, w' = sortWorld (Value.int .i64) W cb co n (one (medianAdjacent lt d a s).2) os := Any.medianAdjacent_func Tryz.laysGg37 enc lt g lb sfn sa sb blk off w0 W d a cb co s eg hL hW ha1 ha2 hsz hS hcb0 hcb hs
def Tryz.laysGg29_ren : Go.Shelf.Ren := ⟨fun | 29 => 186 | 37 => 214 | 38 => 215 | 39 => 223 | n => n, fun | 44 => 212 | 3 => 3 | 53 => 240 | 0 => 0 | 4 => 4 | 64 => 255 | 67 => 276 | 26 => 164 | 37 => 208 | n => n, fun | n => n⟩
theorem Tryz.laysGg29 : Go.Proofs.LaysGg.n29 Tryz.prog Tryz.laysGg29_ren := {
  mixed := by kernel_rfl
  f29 := Tryz.func186.trans (congrArg some (by kernel_rfl))
  f37 := Tryz.func214.trans (congrArg some (by kernel_rfl))
  f38 := Tryz.func215.trans (congrArg some (by kernel_rfl))
  f39 := Tryz.func223.trans (congrArg some (by kernel_rfl))
  t0 := Tryz.underlying0
  a0 := Tryz.isAgg0
  z0 := Tryz.sizeOf0
  v0 := Tryz.zeroValue0
  i0 := by kernel_rfl
  t3 := Tryz.underlying3
  a3 := Tryz.isAgg3
  z3 := Tryz.sizeOf3
  v3 := Tryz.zeroValue3
  i3 := by kernel_rfl
  t4 := Tryz.underlying4
  a4 := Tryz.isAgg4
  z4 := Tryz.sizeOf4
  v4 := Tryz.zeroValue4
  i4 := by kernel_rfl
  t26 := Tryz.underlying164
  a26 := Tryz.isAgg164
  z26 := Tryz.sizeOf164
  v26 := Tryz.zeroValue164
  i26 := by kernel_rfl
  t37 := Tryz.underlying208
  a37 := Tryz.isAgg208
  z37 := Tryz.sizeOf208
  v37 := Tryz.zeroValue208
  i37 := by kernel_rfl
  t44 := Tryz.underlying212
  a44 := Tryz.isAgg212
  z44 := Tryz.sizeOf212
  v44 := Tryz.zeroValue212
  i44 := by kernel_rfl
  t53 := Tryz.underlying240
  a53 := Tryz.isAgg240
  z53 := Tryz.sizeOf240
  v53 := Tryz.zeroValue240
  i53 := by kernel_rfl
  t64 := Tryz.underlying255
  a64 := Tryz.isAgg255
  z64 := Tryz.sizeOf255
  v64 := Tryz.zeroValue255
  i64 := by kernel_rfl
  t67 := Tryz.underlying276
  a67 := Tryz.isAgg276
  z67 := Tryz.sizeOf276
  v67 := Tryz.zeroValue276
  i67 := by kernel_rfl }
open Go.RowKit Go.Lib Go.Sort in
/-- sort.choosePivot_func: THE LIBRARY's OWN TEXT COMPUTES 'Sort.choosePivot lt d a b'; the row is not turned; W is grown. (After Derived/Sort/Walk11.lean's 'So.choosePivot_int', row for row.) (LAID: no walk: one application.) -/
theorem Tryz.choosePivot_func {α : Type} [Inhabited α] (enc : α → Value) (lt : α → α → Bool) (g : Nat) (lb : Array Value) (sfn : Fn) (sa sb : Array Value) (blk off a b : Nat) (W : World) (d : Array α) (eg : ∀ args w, (callFunc g args).run Tryz.prog w = .ok (.enter g args) w) (hless : LessReads Tryz.prog g lb enc lt blk off d.size W) (hH : Holds enc W blk off d) (hab : a < b) (hb : b ≤ d.size) (hsz : d.size < 4611686018427387904) :
    Calls Tryz.prog 186 #[.agg #[.func (.func g) #[] lb, .func sfn sa sb], .int .i64 a, .int .i64 b] W fun e w' =>
      e = .returned (.tuple #[.int .i64 (choosePivot lt d a b).1, .int .i64 (hintCode (choosePivot lt d a b).2)]) ∧ ∃ n os, w' = grow (Sort.ahead W n) os := Any.choosePivot_func Tryz.laysGg29 enc lt g lb sfn sa sb blk off a b W d eg hless hH hab hb hsz
def Tryz.laysGg32_ren : Go.Shelf.Ren := ⟨fun | 32 => 189 | n => n, fun | 44 => 212 | 3 => 3 | 0 => 0 | 37 => 208 | 4 => 4 | 26 => 164 | n => n, fun | n => n⟩
theorem Tryz.laysGg32 : Go.Proofs.LaysGg.n32 Tryz.prog Tryz.laysGg32_ren := {
  mixed := by kernel_rfl
  f32 := Tryz.func189.trans (congrArg some (by kernel_rfl))
  t0 := Tryz.underlying0
  a0 := Tryz.isAgg0
  z0 := Tryz.sizeOf0
  v0 := Tryz.zeroValue0
  i0 := by kernel_rfl
  t3 := Tryz.underlying3
  a3 := Tryz.isAgg3
  z3 := Tryz.sizeOf3
  v3 := Tryz.zeroValue3
  i3 := by kernel_rfl
  t4 := Tryz.underlying4
  a4 := Tryz.isAgg4
  z4 := Tryz.sizeOf4
  v4 := Tryz.zeroValue4
  i4 := by kernel_rfl
  t26 := Tryz.underlying164
  a26 := Tryz.isAgg164
  z26 := Tryz.sizeOf164
  v26 := Tryz.zeroValue164
  i26 := by kernel_rfl
  t37 := Tryz.underlying208
  a37 := Tryz.isAgg208
  z37 := Tryz.sizeOf208
  v37 := Tryz.zeroValue208
  i37 := by kernel_rfl
  t44 := Tryz.underlying212
  a44 := Tryz.isAgg212
  z44 := Tryz.sizeOf212
  v44 := Tryz.zeroValue212
  i44 := by kernel_rfl }
open Go.RowKit Go.Lib Go.Sort in
theorem Tryz.partitionEqual_func_one {α : Type} [Inhabited α] (enc : α → Value) (lt : α → α → Bool) (g : Nat) (lb : Array Value) (sf : Nat) (sb : Array Value) (blk off a b pivot : Nat) (d : Array α) (W : World) (eg : ∀ args w, (callFunc g args).run Tryz.prog w = .ok (.enter g args) w) (hless : LessReads Tryz.prog g lb enc lt blk off d.size W) (hswap : SwapSwaps Tryz.prog sf sb enc blk off d.size) (hH : Holds enc W blk off d) (hblk : blk < W.heap.size) (hap : a ≤ pivot) (hpb : pivot < b) (hb : b ≤ d.size) (hsz : d.size < 4611686018427387904) :
    Calls Tryz.prog 189 #[.agg #[.func (.func g) #[] lb, .func (.func sf) #[] sb], .int .i64 a, .int .i64 b, .int .i64 pivot] W fun e w' =>
      e = .returned (.int .i64 (Sort.partitionEqual lt d a b pivot).1) ∧ ∃ n, w' = (putRow enc (W.alloc (.cells #[.func (.func g) #[] lb, .func (.func sf) #[] sb] 212)) blk off (Sort.partitionEqual lt d a b pivot).2).drewN n := Any.partitionEqual_func_one Tryz.laysGg32 enc lt g lb sf sb blk off a b pivot d W eg hless hswap hH hblk hap hpb hb hsz
def Tryz.laysGg33_ren : Go.Shelf.Ren := ⟨fun | 33 => 190 | n => n, fun | 44 => 212 | 3 => 3 | 4 => 4 | 0 => 0 | 37 => 208 | 26 => 164 | n => n, fun | n => n⟩
theorem Tryz.laysGg33 : Go.Proofs.LaysGg.n33 Tryz.prog Tryz.laysGg33_ren := {
  mixed := by kernel_rfl
  f33 := Tryz.func190.trans (congrArg some (by kernel_rfl))
  t0 := Tryz.underlying0
  a0 := Tryz.isAgg0
  z0 := Tryz.sizeOf0
  v0 := Tryz.zeroValue0
  i0 := by kernel_rfl
  t3 := Tryz.underlying3
  a3 := Tryz.isAgg3
  z3 := Tryz.sizeOf3
  v3 := Tryz.zeroValue3
  i3 := by kernel_rfl
  t4 := Tryz.underlying4
  a4 := Tryz.isAgg4
  z4 := Tryz.sizeOf4
  v4 := Tryz.zeroValue4
  i4 := by kernel_rfl
  t26 := Tryz.underlying164
  a26 := Tryz.isAgg164
  z26 := Tryz.sizeOf164
  v26 := Tryz.zeroValue164
  i26 := by kernel_rfl
  t37 := Tryz.underlying208
  a37 := Tryz.isAgg208
  z37 := Tryz.sizeOf208
  v37 := Tryz.zeroValue208
  i37 := by kernel_rfl
  t44 := Tryz.underlying212
  a44 := Tryz.isAgg212
  z44 := Tryz.sizeOf212
  v44 := Tryz.zeroValue212
  i44 := by kernel_rfl }
open Go.RowKit Go.Lib Go.Sort in
theorem Tryz.partition_func_one {α : Type} [Inhabited α] (enc : α → Value) (lt : α → α → Bool) (g : Nat) (lb : Array Value) (sf : Nat) (sb : Array Value) (blk off a b pivot : Nat) (d : Array α) (W : World) (eg : ∀ args w, (callFunc g args).run Tryz.prog w = .ok (.enter g args) w) (hless : LessReads Tryz.prog g lb enc lt blk off d.size W) (hswap : SwapSwaps Tryz.prog sf sb enc blk off d.size) (hH : Holds enc W blk off d) (hblk : blk < W.heap.size) (hap : a ≤ pivot) (hpb : pivot < b) (hb : b ≤ d.size) (hsz : d.size < 4611686018427387904) :
    Calls Tryz.prog 190 #[.agg #[.func (.func g) #[] lb, .func (.func sf) #[] sb], .int .i64 a, .int .i64 b, .int .i64 pivot] W fun e w' =>
      e = .returned (.tuple #[.int .i64 (Sort.partition lt d a b pivot).1, .bool (Sort.partition lt d a b pivot).2.1]) ∧ ∃ n, w' = (putRow enc (W.alloc (.cells #[.func (.func g) #[] lb, .func (.func sf) #[] sb] 212)) blk off (Sort.partition lt d a b pivot).2.2).drewN n := Any.partition_func_one Tryz.laysGg33 enc lt g lb sf sb blk off a b pivot d W eg hless hswap hH hblk hap hpb hb hsz
open Go.RowKit Go.Lib Go.Sort in
/-- sort.partitionEqual_func, from a world to a 'sortWorld' of it. (LAID: no walk: one application.) -/
theorem Tryz.partitionEqual_func_w {α : Type} [Inhabited α] (enc : α → Value) (lt : α → α → Bool) (g : Nat) (lb : Array Value) (sf : Nat) (sb : Array Value) (blk off a b pivot : Nat) (d : Array α) (W : World) (eg : ∀ args w, (callFunc g args).run Tryz.prog w = .ok (.enter g args) w) (hless : LessReads Tryz.prog g lb enc lt blk off d.size W) (hswap : SwapSwaps Tryz.prog sf sb enc blk off d.size) (hH : Holds enc W blk off d) (hblk : blk < W.heap.size) (hap : a ≤ pivot) (hpb : pivot < b) (hb : b ≤ d.size) (hsz : d.size < 4611686018427387904) :
    Calls Tryz.prog 189 #[.agg #[.func (.func g) #[] lb, .func (.func sf) #[] sb], .int .i64 a, .int .i64 b, .int .i64 pivot] W fun e w' => e = .returned (.int .i64 (Sort.partitionEqual lt d a b pivot).1) ∧ ∃ n os, w' = sortWorld enc W blk off n (Sort.partitionEqual lt d a b pivot).2 os := Any.partitionEqual_func_w Tryz.laysGg32 enc lt g lb sf sb blk off a b pivot d W eg hless hswap hH hblk hap hpb hb hsz
open Go.RowKit Go.Lib Go.Sort in
/-- sort.partition_func, from a world to a 'sortWorld' of it. (LAID: no walk: one application.) -/
theorem Tryz.partition_func_w {α : Type} [Inhabited α] (enc : α → Value) (lt : α → α → Bool) (g : Nat) (lb : Array Value) (sf : Nat) (sb : Array Value) (blk off a b pivot : Nat) (d : Array α) (W : World) (eg : ∀ args w, (callFunc g args).run Tryz.prog w = .ok (.enter g args) w) (hless : LessReads Tryz.prog g lb enc lt blk off d.size W) (hswap : SwapSwaps Tryz.prog sf sb enc blk off d.size) (hH : Holds enc W blk off d) (hblk : blk < W.heap.size) (hap : a ≤ pivot) (hpb : pivot < b) (hb : b ≤ d.size) (hsz : d.size < 4611686018427387904) :
    Calls Tryz.prog 190 #[.agg #[.func (.func g) #[] lb, .func (.func sf) #[] sb], .int .i64 a, .int .i64 b, .int .i64 pivot] W fun e w' => e = .returned (.tuple #[.int .i64 (Sort.partition lt d a b pivot).1, .bool (Sort.partition lt d a b pivot).2.1]) ∧ ∃ n os, w' = sortWorld enc W blk off n (Sort.partition lt d a b pivot).2.2 os := Any.partition_func_w Tryz.laysGg33 enc lt g lb sf sb blk off a b pivot d W eg hless hswap hH hblk hap hpb hb hsz
open Go.RowKit Go.Lib Go.Sort in
theorem Tryz.pdqsort_func_all {α : Type} [Inhabited α] (enc : α → Value) (lt : α → α → Bool) (hO : SWO lt) (g : Nat) (lb : Array Value) (sf : Nat) (sb : Array Value) (eg : ∀ args w, (callFunc g args).run Tryz.prog w = .ok (.enter g args) w) :
    ∀ (N blk off a b limit : Nat) (d : Array α) (w : World), b - a < N → LessReads Tryz.prog g lb enc lt blk off d.size w → SwapSwaps Tryz.prog sf sb enc blk off d.size → Holds enc w blk off d → blk < w.heap.size → a ≤ b → b ≤ d.size → d.size < 4611686018427387904 → limit < 4611686018427387904 → Below lt a b d →
    Calls Tryz.prog 139 #[.agg #[.func (.func g) #[] lb, .func (.func sf) #[] sb], .int .i64 a, .int .i64 b, .int .i64 limit] w fun e w' => e = .returned (.tuple #[]) ∧ At enc w blk off (pdq lt d a b limit true true) w' := Any.pdqsort_func_all Tryz.laysGg14 enc lt hO g lb sf sb eg
def Tryz.lays206_ren : Go.Shelf.Ren := ⟨fun | 206 => 90 | n => n, fun | 9 => 9 | 4 => 4 | 3 => 3 | n => n, fun | n => n⟩
theorem Tryz.lays206 : Go.Proofs.Lays.n206 Tryz.prog Tryz.lays206_ren := {
  mixed := by kernel_rfl
  f206 := Tryz.func90.trans (congrArg some (by kernel_rfl))
  t3 := Tryz.underlying3
  a3 := Tryz.isAgg3
  z3 := Tryz.sizeOf3
  v3 := Tryz.zeroValue3
  t4 := Tryz.underlying4
  a4 := Tryz.isAgg4
  z4 := Tryz.sizeOf4
  v4 := Tryz.zeroValue4
  t9 := Tryz.underlying9
  a9 := Tryz.isAgg9
  z9 := Tryz.sizeOf9
  v9 := Tryz.zeroValue9 }
open Go.RowKit Go.Lib in
/-- internal/stringslite.HasPrefix (what strings.HasPrefix calls). (LAID: no walk: one application.) -/
theorem Tryz.stringslite_HasPrefix (s p : ByteArray) (w : World) :
    Calls Tryz.prog 90 #[.string s, .string p] w fun e w' => e = .returned (.bool (Lib.hasPrefix s.data.toList p.data.toList)) ∧ w' = w := Any.stringslite_HasPrefix Tryz.lays206 s p w
def Tryz.lays99_ren : Go.Shelf.Ren := ⟨fun | 99 => 49 | 206 => 90 | n => n, fun | 9 => 9 | 4 => 4 | 3 => 3 | n => n, fun | n => n⟩
theorem Tryz.lays99 : Go.Proofs.Lays.n99 Tryz.prog Tryz.lays99_ren := {
  mixed := by kernel_rfl
  f99 := Tryz.func49.trans (congrArg some (by kernel_rfl))
  f206 := Tryz.func90.trans (congrArg some (by kernel_rfl))
  t3 := Tryz.underlying3
  a3 := Tryz.isAgg3
  z3 := Tryz.sizeOf3
  v3 := Tryz.zeroValue3
  t4 := Tryz.underlying4
  a4 := Tryz.isAgg4
  z4 := Tryz.sizeOf4
  v4 := Tryz.zeroValue4
  t9 := Tryz.underlying9
  a9 := Tryz.isAgg9
  z9 := Tryz.sizeOf9
  v9 := Tryz.zeroValue9 }
open Go.RowKit Go.Lib in
/-- strings.HasPrefix: "HasPrefix reports whether the string s begins with prefix.": IT RETURNS 'Lib.hasPrefix s prefix'; the world is as it was. (LAID: no walk: one application.) -/
theorem Tryz.strings_HasPrefix (s p : ByteArray) (w : World) :
    Calls Tryz.prog 49 #[.string s, .string p] w fun e w' => e = .returned (.bool (Lib.hasPrefix s.data.toList p.data.toList)) ∧ w' = w := Any.strings_HasPrefix Tryz.lays99 s p w
def Tryz.lays199_ren : Go.Shelf.Ren := ⟨fun | 199 => 147 | 261 => 194 | 311 => 217 | 312 => 218 | n => n, fun | 21 => 21 | 4 => 4 | 51 => 145 | 141 => 248 | 0 => 0 | 196 => 267 | 193 => 264 | 3 => 3 | 198 => 270 | 49 => 268 | 194 => 265 | 201 => 273 | 226 => 281 | 46 => 103 | 227 => 282 | n => n, fun | 6 => 11 | n => n⟩
theorem Tryz.lays199 : Go.Proofs.Lays.n199 Tryz.prog Tryz.lays199_ren := {
  mixed := by kernel_rfl
  f199 := Tryz.func147.trans (congrArg some (by kernel_rfl))
  f261 := Tryz.func194.trans (congrArg some (by kernel_rfl))
  f311 := Tryz.func217.trans (congrArg some (by kernel_rfl))
  f312 := Tryz.func218.trans (congrArg some (by kernel_rfl))
  t0 := Tryz.underlying0
  a0 := Tryz.isAgg0
  z0 := Tryz.sizeOf0
  v0 := Tryz.zeroValue0
  t3 := Tryz.underlying3
  a3 := Tryz.isAgg3
  z3 := Tryz.sizeOf3
  v3 := Tryz.zeroValue3
  t4 := Tryz.underlying4
  a4 := Tryz.isAgg4
  z4 := Tryz.sizeOf4
  v4 := Tryz.zeroValue4
  t21 := Tryz.underlying21
  a21 := Tryz.isAgg21
  z21 := Tryz.sizeOf21
  v21 := Tryz.zeroValue21
  t46 := Tryz.underlying103
  a46 := Tryz.isAgg103
  z46 := Tryz.sizeOf103
  v46 := Tryz.zeroValue103
  t49 := Tryz.underlying268
  a49 := Tryz.isAgg268
  z49 := Tryz.sizeOf268
  v49 := Tryz.zeroValue268
  t51 := Tryz.underlying145
  a51 := Tryz.isAgg145
  z51 := Tryz.sizeOf145
  v51 := Tryz.zeroValue145
  t141 := Tryz.underlying248
  a141 := Tryz.isAgg248
  z141 := Tryz.sizeOf248
  v141 := Tryz.zeroValue248
  t193 := Tryz.underlying264
  a193 := Tryz.isAgg264
  z193 := Tryz.sizeOf264
  v193 := Tryz.zeroValue264
  t194 := Tryz.underlying265
  a194 := Tryz.isAgg265
  z194 := Tryz.sizeOf265
  v194 := Tryz.zeroValue265
  t196 := Tryz.underlying267
  a196 := Tryz.isAgg267
  z196 := Tryz.sizeOf267
  v196 := Tryz.zeroValue267
  t198 := Tryz.underlying270
  a198 := Tryz.isAgg270
  z198 := Tryz.sizeOf270
  v198 := Tryz.zeroValue270
  t201 := Tryz.underlying273
  a201 := Tryz.isAgg273
  z201 := Tryz.sizeOf273
  v201 := Tryz.zeroValue273
  t226 := Tryz.underlying281
  a226 := Tryz.isAgg281
  z226 := Tryz.sizeOf281
  v226 := Tryz.zeroValue281
  t227 := Tryz.underlying282
  a227 := Tryz.isAgg282
  z227 := Tryz.sizeOf282
  v227 := Tryz.zeroValue282
  g6 := by kernel_rfl }
open Go.RowKit Go.Lib in
theorem Tryz.unicode_IsSpace (r : Int) (w : World) (h0 : 0 ≤ r) (h : r ≤ 255) :
    Calls Tryz.prog 147 #[.int .i32 r] w fun e w' => e = .returned (.bool (Lib.isSpaceL r)) ∧ w' = w := Any.unicode_IsSpace Tryz.lays199 r w h0 h
def Tryz.lays197_ren : Go.Shelf.Ren := ⟨fun | 197 => 172 | 260 => 209 | n => n, fun | 9 => 9 | 21 => 21 | 3 => 3 | 4 => 4 | 5 => 5 | 105 => 231 | 119 => 179 | 0 => 0 | 46 => 103 | 139 => 182 | 138 => 181 | n => n, fun | 3 => 3 | 4 => 4 | n => n⟩
theorem Tryz.lays197 : Go.Proofs.Lays.n197 Tryz.prog Tryz.lays197_ren := {
  mixed := by kernel_rfl
  f197 := Tryz.func172.trans (congrArg some (by kernel_rfl))
  f260 := Tryz.func209.trans (congrArg some (by kernel_rfl))
  t0 := Tryz.underlying0
  a0 := Tryz.isAgg0
  z0 := Tryz.sizeOf0
  v0 := Tryz.zeroValue0
  t3 := Tryz.underlying3
  a3 := Tryz.isAgg3
  z3 := Tryz.sizeOf3
  v3 := Tryz.zeroValue3
  t4 := Tryz.underlying4
  a4 := Tryz.isAgg4
  z4 := Tryz.sizeOf4
  v4 := Tryz.zeroValue4
  t5 := Tryz.underlying5
  a5 := Tryz.isAgg5
  z5 := Tryz.sizeOf5
  v5 := Tryz.zeroValue5
  t9 := Tryz.underlying9
  a9 := Tryz.isAgg9
  z9 := Tryz.sizeOf9
  v9 := Tryz.zeroValue9
  t21 := Tryz.underlying21
  a21 := Tryz.isAgg21
  z21 := Tryz.sizeOf21
  v21 := Tryz.zeroValue21
  t46 := Tryz.underlying103
  a46 := Tryz.isAgg103
  z46 := Tryz.sizeOf103
  v46 := Tryz.zeroValue103
  t105 := Tryz.underlying231
  a105 := Tryz.isAgg231
  z105 := Tryz.sizeOf231
  v105 := Tryz.zeroValue231
  t119 := Tryz.underlying179
  a119 := Tryz.isAgg179
  z119 := Tryz.sizeOf179
  t138 := Tryz.underlying181
  a138 := Tryz.isAgg181
  z138 := Tryz.sizeOf181
  v138 := Tryz.zeroValue181
  t139 := Tryz.underlying182
  a139 := Tryz.isAgg182
  z139 := Tryz.sizeOf182
  v139 := Tryz.zeroValue182
  g3 := by kernel_rfl
  g4 := by kernel_rfl }
open Go.RowKit Go.Lib in
/-- unicode/utf8.DecodeRuneInString: "DecodeRuneInString is like DecodeRune but its input is a string.": ("DecodeRune unpacks the first UTF-8 encoding in p and returns the rune and its width in bytes."): WHERE s BEGINS WITH AN ASCII BYTE x: (x, 1). (LAID: no walk: one application.) -/
theorem Tryz.utf8_DecodeRuneInString_ascii (s : ByteArray) (x : UInt8) (w : World) (h0 : s.data.toList[0]? = some x) (hx : x.toNat < 128) :
    Calls Tryz.prog 172 #[.string s] w fun e w' => e = .returned (.tuple #[.int .i32 x.toNat, .int .i64 1]) ∧ w' = w := Any.utf8_DecodeRuneInString_ascii Tryz.lays197 s x w h0 hx
def Tryz.lays264_ren : Go.Shelf.Ren := ⟨fun | 264 => 89 | n => n, fun | 53 => 148 | 46 => 103 | n => n, fun | n => n⟩
theorem Tryz.lays264 : Go.Proofs.Lays.n264 Tryz.prog Tryz.lays264_ren := {
  mixed := by kernel_rfl
  f264 := Tryz.func89.trans (congrArg some (by kernel_rfl))
  t46 := Tryz.underlying103
  a46 := Tryz.isAgg103
  z46 := Tryz.sizeOf103
  v46 := Tryz.zeroValue103
  t53 := Tryz.underlying148
  a53 := Tryz.isAgg148
  z53 := Tryz.sizeOf148
  v53 := Tryz.zeroValue148 }
open Go.RowKit Go.Lib in
theorem Tryz.bits_Mul64 (x y : Nat) (hx : x < 18446744073709551616) (hy : y < 18446744073709551616) (w : World) :
    Calls Tryz.prog 89 #[.int .u64 x, .int .u64 y] w fun e w' => e = .returned (.tuple #[.int .u64 ((x * y / 18446744073709551616 : Nat) : Int), .int .u64 ((x * y % 18446744073709551616 : Nat) : Int)]) ∧ w' = w := Any.bits_Mul64 Tryz.lays264 x y hx hy w
def Tryz.lays212_ren : Go.Shelf.Ren := ⟨fun | 212 => 48 | 263 => 88 | 264 => 89 | n => n, fun | 46 => 103 | 51 => 145 | 146 => 146 | 53 => 148 | 148 => 149 | n => n, fun | n => n⟩
theorem Tryz.lays212 : Go.Proofs.Lays.n212 Tryz.prog Tryz.lays212_ren := {
  mixed := by kernel_rfl
  f212 := Tryz.func48.trans (congrArg some (by kernel_rfl))
  f263 := Tryz.func88.trans (congrArg some (by kernel_rfl))
  f264 := Tryz.func89.trans (congrArg some (by kernel_rfl))
  t46 := Tryz.underlying103
  a46 := Tryz.isAgg103
  z46 := Tryz.sizeOf103
  v46 := Tryz.zeroValue103
  t51 := Tryz.underlying145
  a51 := Tryz.isAgg145
  z51 := Tryz.sizeOf145
  v51 := Tryz.zeroValue145
  t53 := Tryz.underlying148
  a53 := Tryz.isAgg148
  z53 := Tryz.sizeOf148
  v53 := Tryz.zeroValue148
  t146 := Tryz.underlying146
  a146 := Tryz.isAgg146
  z146 := Tryz.sizeOf146
  v146 := Tryz.zeroValue146
  t148 := Tryz.underlying149
  a148 := Tryz.isAgg149
  z148 := Tryz.sizeOf149
  v148 := Tryz.zeroValue149 }
open Go.RowKit Go.Lib in
/-- math/bits.Mul: "Mul returns the full-width product of x and y": on a machine of 64 bits: Mul64's. (LAID: no walk: one application.) -/
theorem Tryz.bits_Mul (x y : Nat) (hx : x < 18446744073709551616) (hy : y < 18446744073709551616) (w : World) :
    Calls Tryz.prog 48 #[.int .u64 x, .int .u64 y] w fun e w' => e = .returned (.tuple #[.int .u64 ((x * y / 18446744073709551616 : Nat) : Int), .int .u64 ((x * y % 18446744073709551616 : Nat) : Int)]) ∧ w' = w := Any.bits_Mul Tryz.lays212 x y hx hy w
def Tryz.lays105_ren : Go.Shelf.Ren := ⟨fun | 105 => 22 | 212 => 48 | 99 => 49 | 165 => 50 | 166 => 51 | 170 => 52 | 169 => 53 | 263 => 88 | 264 => 89 | 206 => 90 | 240 => 91 | 241 => 92 | 276 => 127 | 277 => 128 | n => n, fun | 9 => 9 | 3 => 3 | 4 => 4 | 20 => 20 | 0 => 0 | 46 => 103 | 109 => 104 | 5 => 5 | 72 => 109 | 76 => 111 | 51 => 145 | 146 => 146 | 53 => 148 | 148 => 149 | 70 => 107 | 37 => 57 | 75 => 88 | 127 => 151 | 164 => 193 | 80 => 92 | n => n, fun | n => n⟩
theorem Tryz.lays105 : Go.Proofs.Lays.n105 Tryz.prog Tryz.lays105_ren := {
  mixed := by kernel_rfl
  f99 := Tryz.func49.trans (congrArg some (by kernel_rfl))
  f105 := Tryz.func22.trans (congrArg some (by kernel_rfl))
  f165 := Tryz.func50.trans (congrArg some (by kernel_rfl))
  f166 := Tryz.func51.trans (congrArg some (by kernel_rfl))
  f169 := Tryz.func53.trans (congrArg some (by kernel_rfl))
  f170 := Tryz.func52.trans (congrArg some (by kernel_rfl))
  f206 := Tryz.func90.trans (congrArg some (by kernel_rfl))
  f212 := Tryz.func48.trans (congrArg some (by kernel_rfl))
  f240 := Tryz.func91.trans (congrArg some (by kernel_rfl))
  f241 := Tryz.func92.trans (congrArg some (by kernel_rfl))
  f263 := Tryz.func88.trans (congrArg some (by kernel_rfl))
  f264 := Tryz.func89.trans (congrArg some (by kernel_rfl))
  f276 := Tryz.func127.trans (congrArg some (by kernel_rfl))
  f277 := Tryz.func128.trans (congrArg some (by kernel_rfl))
  t0 := Tryz.underlying0
  a0 := Tryz.isAgg0
  z0 := Tryz.sizeOf0
  v0 := Tryz.zeroValue0
  t3 := Tryz.underlying3
  a3 := Tryz.isAgg3
  z3 := Tryz.sizeOf3
  v3 := Tryz.zeroValue3
  t4 := Tryz.underlying4
  a4 := Tryz.isAgg4
  z4 := Tryz.sizeOf4
  v4 := Tryz.zeroValue4
  t5 := Tryz.underlying5
  a5 := Tryz.isAgg5
  z5 := Tryz.sizeOf5
  v5 := Tryz.zeroValue5
  t9 := Tryz.underlying9
  a9 := Tryz.isAgg9
  z9 := Tryz.sizeOf9
  v9 := Tryz.zeroValue9
  t20 := Tryz.underlying20
  a20 := Tryz.isAgg20
  z20 := Tryz.sizeOf20
  v20 := Tryz.zeroValue20
  t37 := Tryz.underlying57
  a37 := Tryz.isAgg57
  z37 := Tryz.sizeOf57
  v37 := Tryz.zeroValue57
  t46 := Tryz.underlying103
  a46 := Tryz.isAgg103
  z46 := Tryz.sizeOf103
  v46 := Tryz.zeroValue103
  t51 := Tryz.underlying145
  a51 := Tryz.isAgg145
  z51 := Tryz.sizeOf145
  v51 := Tryz.zeroValue145
  t53 := Tryz.underlying148
  a53 := Tryz.isAgg148
  z53 := Tryz.sizeOf148
  v53 := Tryz.zeroValue148
  t70 := Tryz.underlying107
  a70 := Tryz.isAgg107
  z70 := Tryz.sizeOf107
  v70 := Tryz.zeroValue107
  t72 := Tryz.underlying109
  a72 := Tryz.isAgg109
  z72 := Tryz.sizeOf109
  v72 := Tryz.zeroValue109
  t75 := Tryz.underlying88
  a75 := Tryz.isAgg88
  z75 := Tryz.sizeOf88
  v75 := Tryz.zeroValue88
  t76 := Tryz.underlying111
  a76 := Tryz.isAgg111
  z76 := Tryz.sizeOf111
  v76 := Tryz.zeroValue111
  t109 := Tryz.underlying104
  a109 := Tryz.isAgg104
  z109 := Tryz.sizeOf104
  v109 := Tryz.zeroValue104
  t127 := Tryz.underlying151
  a127 := Tryz.isAgg151
  z127 := Tryz.sizeOf151
  v127 := Tryz.zeroValue151
  t146 := Tryz.underlying146
  a146 := Tryz.isAgg146
  z146 := Tryz.sizeOf146
  v146 := Tryz.zeroValue146
  t148 := Tryz.underlying149
  a148 := Tryz.isAgg149
  z148 := Tryz.sizeOf149
  v148 := Tryz.zeroValue149
  t164 := Tryz.underlying193
  a164 := Tryz.isAgg193
  z164 := Tryz.sizeOf193
  v164 := Tryz.zeroValue193 }
theorem Tryz.Builder_Extra_105 : Builder.Extra Tryz.prog Tryz.lays105_ren := {
  sizeBuilder := by kernel_rfl
  liesBuilder := by kernel_rfl
  t5 := Tryz.underlying5
  a5 := Tryz.isAgg5
  z5 := Tryz.sizeOf5
  v5 := Tryz.zeroValue5
  infoByte := by kernel_rfl
  cellsByte := by kernel_rfl
  sizeByte := by kernel_rfl
  neB5 := by decide }
open Go.RowKit Go.Lib in
/-- THE MAIN CASE: at least two copies of a string that is not empty. (LAID: no walk: one application.) -/
theorem Tryz.strings_Repeat_main (s : ByteArray) (c : Nat) (w : World) (hc2 : 2 ≤ c) (hc : c ≤ 9223372036854775807) (hlen : s.size * c ≤ 140737488355328) (h0 : 0 < s.size) :
    Calls Tryz.prog 22 #[.string s, .int .i64 c] w fun e w' => e = .returned (.string ⟨(Lib.repeatL s.data.toList c).toArray⟩) ∧ Below w.heap.size w w' := Any.strings_Repeat_main Tryz.lays105 Tryz.Builder_Extra_105 s c w hc2 hc hlen h0
open Go.RowKit Go.Lib in
theorem Tryz.strings_Repeat_zero (s : ByteArray) (w : World) :
    Calls Tryz.prog 22 #[.string s, .int .i64 0] w fun e w' => e = .returned (.string ⟨#[]⟩) ∧ w' = w := Any.strings_Repeat_zero Tryz.lays105 s w
open Go.RowKit Go.Lib in
theorem Tryz.strings_Repeat_one (s : ByteArray) (w : World) :
    Calls Tryz.prog 22 #[.string s, .int .i64 1] w fun e w' => e = .returned (.string s) ∧ w' = w := Any.strings_Repeat_one Tryz.lays105 s w
open Go.RowKit Go.Lib in
/-- Copies of the empty string. (LAID: no walk: one application.) -/
theorem Tryz.strings_Repeat_empty (s : ByteArray) (c : Nat) (w : World) (hc2 : 2 ≤ c) (hc : c ≤ 9223372036854775807) (h0 : s.size = 0) :
    Calls Tryz.prog 22 #[.string s, .int .i64 c] w fun e w' => e = .returned (.string ⟨#[]⟩) ∧ w' = w := Any.strings_Repeat_empty Tryz.lays105 s c w hc2 hc h0
open Go.RowKit Go.Lib in
/-- count < 0: "It panics if count is negative". (LAID: no walk: one application.) -/
theorem Tryz.strings_Repeat_negative (s : ByteArray) (c : Int) (w : World) (hc : c < 0) :
    Calls Tryz.prog 22 #[.string s, .int .i64 c] w fun e w' => e = .panicked [{ v := repeatPanic Tryz.lays105_ren "strings: negative Repeat count", recovered := false }] ∧ w' = w := Any.strings_Repeat_negative Tryz.lays105 s c w hc
open Go.RowKit Go.Lib in
/-- len(s) * count is no int: ".. or if the result of (len(s) * count) overflows". (LAID: no walk: one application.) -/
theorem Tryz.strings_Repeat_overflow (s : ByteArray) (c : Nat) (w : World) (hc : c ≤ 9223372036854775807) (hs : s.size ≤ 9223372036854775807) (hbig : 9223372036854775807 < s.size * c) :
    Calls Tryz.prog 22 #[.string s, .int .i64 c] w fun e w' => e = .panicked [{ v := repeatPanic Tryz.lays105_ren "strings: Repeat output length overflow", recovered := false }] ∧ w' = w := Any.strings_Repeat_overflow Tryz.lays105 s c w hc hs hbig
open Go.RowKit Go.Lib in
/-- **strings.Repeat: count ≥ 0, the result within one allocation: count copies of s.** (LAID: no walk: one application.) -/
theorem Tryz.strings_Repeat (s : ByteArray) (c : Nat) (w : World) (hc : c ≤ 9223372036854775807) (hlen : s.size * c ≤ 140737488355328) :
    Calls Tryz.prog 22 #[.string s, .int .i64 c] w fun e w' => e = .returned (.string ⟨(Lib.repeatL s.data.toList c).toArray⟩) ∧ Below w.heap.size w w' := Any.strings_Repeat Tryz.lays105 Tryz.Builder_Extra_105 s c w hc hlen
def Tryz.lays260_ren : Go.Shelf.Ren := ⟨fun | 260 => 209 | n => n, fun | 9 => 9 | 21 => 21 | 3 => 3 | 4 => 4 | 5 => 5 | 119 => 179 | 0 => 0 | 46 => 103 | 139 => 182 | 138 => 181 | n => n, fun | 3 => 3 | 4 => 4 | n => n⟩
theorem Tryz.lays260 : Go.Proofs.Lays.n260 Tryz.prog Tryz.lays260_ren := {
  mixed := by kernel_rfl
  f260 := Tryz.func209.trans (congrArg some (by kernel_rfl))
  t0 := Tryz.underlying0
  a0 := Tryz.isAgg0
  z0 := Tryz.sizeOf0
  v0 := Tryz.zeroValue0
  t3 := Tryz.underlying3
  a3 := Tryz.isAgg3
  z3 := Tryz.sizeOf3
  v3 := Tryz.zeroValue3
  t4 := Tryz.underlying4
  a4 := Tryz.isAgg4
  z4 := Tryz.sizeOf4
  v4 := Tryz.zeroValue4
  t5 := Tryz.underlying5
  a5 := Tryz.isAgg5
  z5 := Tryz.sizeOf5
  v5 := Tryz.zeroValue5
  t9 := Tryz.underlying9
  a9 := Tryz.isAgg9
  z9 := Tryz.sizeOf9
  v9 := Tryz.zeroValue9
  t21 := Tryz.underlying21
  a21 := Tryz.isAgg21
  z21 := Tryz.sizeOf21
  v21 := Tryz.zeroValue21
  t46 := Tryz.underlying103
  a46 := Tryz.isAgg103
  z46 := Tryz.sizeOf103
  v46 := Tryz.zeroValue103
  t119 := Tryz.underlying179
  a119 := Tryz.isAgg179
  z119 := Tryz.sizeOf179
  t138 := Tryz.underlying181
  a138 := Tryz.isAgg181
  z138 := Tryz.sizeOf181
  v138 := Tryz.zeroValue181
  t139 := Tryz.underlying182
  a139 := Tryz.isAgg182
  z139 := Tryz.sizeOf182
  v139 := Tryz.zeroValue182
  g3 := by kernel_rfl
  g4 := by kernel_rfl }
open Go.RowKit Go.Lib in
theorem Tryz.utf8_decodeRuneInStringSlow (s : ByteArray) (w : World) (hT : Lib.Utf8Tabs 3 4 w) :
    Calls Tryz.prog 209 #[.string s] w fun e w' => e = .returned (.tuple #[.int .i32 (Lib.decodeGo s).1, .int .i64 (Lib.decodeGo s).2]) ∧ Below w.heap.size w w' := Any.utf8_decodeRuneInStringSlow Tryz.lays260 s w hT
open Go.RowKit Go.Lib in
/-- **unicode/utf8.DecodeRuneInString AT EVERY STRING.** (LAID: no walk: one application.) -/
theorem Tryz.utf8_DecodeRuneInString (s : ByteArray) (w : World) (hT : Lib.Utf8Tabs 3 4 w) :
    Calls Tryz.prog 172 #[.string s] w fun e w' => e = .returned (.tuple #[.int .i32 (Lib.decodeGo s).1, .int .i64 (Lib.decodeGo s).2]) ∧ Below w.heap.size w w' := Any.utf8_DecodeRuneInString Tryz.lays197 s w hT
def Tryz.lays311_ren : Go.Shelf.Ren := ⟨fun | 311 => 217 | n => n, fun | 193 => 264 | 49 => 268 | 4 => 4 | 3 => 3 | 0 => 0 | 226 => 281 | 198 => 270 | 46 => 103 | n => n, fun | n => n⟩
theorem Tryz.lays311 : Go.Proofs.Lays.n311 Tryz.prog Tryz.lays311_ren := {
  mixed := by kernel_rfl
  f311 := Tryz.func217.trans (congrArg some (by kernel_rfl))
  t0 := Tryz.underlying0
  a0 := Tryz.isAgg0
  z0 := Tryz.sizeOf0
  v0 := Tryz.zeroValue0
  t3 := Tryz.underlying3
  a3 := Tryz.isAgg3
  z3 := Tryz.sizeOf3
  v3 := Tryz.zeroValue3
  t4 := Tryz.underlying4
  a4 := Tryz.isAgg4
  z4 := Tryz.sizeOf4
  v4 := Tryz.zeroValue4
  t46 := Tryz.underlying103
  a46 := Tryz.isAgg103
  z46 := Tryz.sizeOf103
  v46 := Tryz.zeroValue103
  t49 := Tryz.underlying268
  a49 := Tryz.isAgg268
  z49 := Tryz.sizeOf268
  v49 := Tryz.zeroValue268
  t193 := Tryz.underlying264
  a193 := Tryz.isAgg264
  z193 := Tryz.sizeOf264
  v193 := Tryz.zeroValue264
  t198 := Tryz.underlying270
  a198 := Tryz.isAgg270
  z198 := Tryz.sizeOf270
  v198 := Tryz.zeroValue270
  t226 := Tryz.underlying281
  a226 := Tryz.isAgg281
  z226 := Tryz.sizeOf281
  v226 := Tryz.zeroValue281 }
open Go.RowKit Go.Lib in
theorem Tryz.unicode_is16_white (R oR : Nat) (z : Nat) (w : World) (hz : z < 65536) (hz0 : 255 < z) (c6 : w.cell? ⟨R, oR + 6, none⟩ = some (.int .u16 160)) (c7 : w.cell? ⟨R, oR + 7, none⟩ = some (.int .u16 5760)) (c8 : w.cell? ⟨R, oR + 8, none⟩ = some (.int .u16 5600)) (c9 : w.cell? ⟨R, oR + 9, none⟩ = some (.int .u16 8192)) (c10 : w.cell? ⟨R, oR + 10, none⟩ = some (.int .u16 8202)) (c11 : w.cell? ⟨R, oR + 11, none⟩ = some (.int .u16 1)) (c12 : w.cell? ⟨R, oR + 12, none⟩ = some (.int .u16 8232)) (c13 : w.cell? ⟨R, oR + 13, none⟩ = some (.int .u16 8233)) (c14 : w.cell? ⟨R, oR + 14, none⟩ = some (.int .u16 1)) (c15 : w.cell? ⟨R, oR + 15, none⟩ = some (.int .u16 8239)) (c16 : w.cell? ⟨R, oR + 16, none⟩ = some (.int .u16 8287)) (c17 : w.cell? ⟨R, oR + 17, none⟩ = some (.int .u16 48)) (c18 : w.cell? ⟨R, oR + 18, none⟩ = some (.int .u16 12288)) (c19 : w.cell? ⟨R, oR + 19, none⟩ = some (.int .u16 12288)) (c20 : w.cell? ⟨R, oR + 20, none⟩ = some (.int .u16 1)) :
    Calls Tryz.prog 217 #[.slice (some ⟨R, oR + 6, none⟩) 5 5, .int .u16 z] w fun e w' => e = .returned (.bool (Lib.isSpaceR z)) ∧ Below w.heap.size w w' := Any.unicode_is16_white Tryz.lays311 R oR z w hz hz0 c6 c7 c8 c9 c10 c11 c12 c13 c14 c15 c16 c17 c18 c19 c20
def Tryz.lays261_ren : Go.Shelf.Ren := ⟨fun | 261 => 194 | 311 => 217 | 312 => 218 | n => n, fun | 141 => 248 | 21 => 21 | 4 => 4 | 0 => 0 | 196 => 267 | 193 => 264 | 3 => 3 | 51 => 145 | 198 => 270 | 49 => 268 | 194 => 265 | 201 => 273 | 226 => 281 | 46 => 103 | 227 => 282 | n => n, fun | n => n⟩
theorem Tryz.lays261 : Go.Proofs.Lays.n261 Tryz.prog Tryz.lays261_ren := {
  mixed := by kernel_rfl
  f261 := Tryz.func194.trans (congrArg some (by kernel_rfl))
  f311 := Tryz.func217.trans (congrArg some (by kernel_rfl))
  f312 := Tryz.func218.trans (congrArg some (by kernel_rfl))
  t0 := Tryz.underlying0
  a0 := Tryz.isAgg0
  z0 := Tryz.sizeOf0
  v0 := Tryz.zeroValue0
  t3 := Tryz.underlying3
  a3 := Tryz.isAgg3
  z3 := Tryz.sizeOf3
  v3 := Tryz.zeroValue3
  t4 := Tryz.underlying4
  a4 := Tryz.isAgg4
  z4 := Tryz.sizeOf4
  v4 := Tryz.zeroValue4
  t21 := Tryz.underlying21
  a21 := Tryz.isAgg21
  z21 := Tryz.sizeOf21
  v21 := Tryz.zeroValue21
  t46 := Tryz.underlying103
  a46 := Tryz.isAgg103
  z46 := Tryz.sizeOf103
  v46 := Tryz.zeroValue103
  t49 := Tryz.underlying268
  a49 := Tryz.isAgg268
  z49 := Tryz.sizeOf268
  v49 := Tryz.zeroValue268
  t51 := Tryz.underlying145
  a51 := Tryz.isAgg145
  z51 := Tryz.sizeOf145
  v51 := Tryz.zeroValue145
  t141 := Tryz.underlying248
  a141 := Tryz.isAgg248
  z141 := Tryz.sizeOf248
  v141 := Tryz.zeroValue248
  t193 := Tryz.underlying264
  a193 := Tryz.isAgg264
  z193 := Tryz.sizeOf264
  v193 := Tryz.zeroValue264
  t194 := Tryz.underlying265
  a194 := Tryz.isAgg265
  z194 := Tryz.sizeOf265
  v194 := Tryz.zeroValue265
  t196 := Tryz.underlying267
  a196 := Tryz.isAgg267
  z196 := Tryz.sizeOf267
  v196 := Tryz.zeroValue267
  t198 := Tryz.underlying270
  a198 := Tryz.isAgg270
  z198 := Tryz.sizeOf270
  v198 := Tryz.zeroValue270
  t201 := Tryz.underlying273
  a201 := Tryz.isAgg273
  z201 := Tryz.sizeOf273
  v201 := Tryz.zeroValue273
  t226 := Tryz.underlying281
  a226 := Tryz.isAgg281
  z226 := Tryz.sizeOf281
  v226 := Tryz.zeroValue281
  t227 := Tryz.underlying282
  a227 := Tryz.isAgg282
  z227 := Tryz.sizeOf282
  v227 := Tryz.zeroValue282 }
open Go.RowKit Go.Lib in
/-- unicode.isExcludingLatin(White_Space, r), r beyond U+00FF or negative. (LAID: no walk: one application.) -/
theorem Tryz.unicode_isExcludingLatin_white (T oT R oR : Nat) (r : Int) (w : World) (hlo : -2147483648 ≤ r) (hhi : r ≤ 2147483647) (hr : r < 0 ∨ 255 < r) (h2 : w.cell? ⟨T, oT, none⟩ = some (.slice (some ⟨R, oR, none⟩) 7 7)) (h3 : w.cell? ⟨T, oT + 1, none⟩ = some (.slice none 0 0)) (h4 : w.cell? ⟨T, oT + 2, none⟩ = some (.int .i64 2)) (h5 : ∀ i, i < 21 → w.cell? ⟨R, oR + i, none⟩ = some (.int .u16 (whiteT.getD i 0))) :
    Calls Tryz.prog 194 #[.pointer (some ⟨T, oT, none⟩), .int .i32 r] w fun e w' => e = .returned (.bool (Lib.isSpaceZ r)) ∧ Below w.heap.size w w' := Any.unicode_isExcludingLatin_white Tryz.lays261 T oT R oR r w hlo hhi hr h2 h3 h4 h5
open Go.RowKit Go.Lib in
/-- **unicode.IsSpace AT EVERY int32.** (LAID: no walk: one application.) -/
theorem Tryz.unicode_IsSpace_any (r : Int) (w : World) (hlo : -2147483648 ≤ r) (hhi : r ≤ 2147483647) (hW : Lib.WhiteTab 11 w) :
    Calls Tryz.prog 147 #[.int .i32 r] w fun e w' => e = .returned (.bool (Lib.isSpaceZ r)) ∧ Below w.heap.size w w' := Any.unicode_IsSpace_any Tryz.lays199 r w hlo hhi hW
def Tryz.lays271_ren : Go.Shelf.Ren := ⟨fun | 271 => 219 | 120 => 224 | 197 => 172 | 260 => 209 | n => n, fun | 9 => 9 | 21 => 21 | 3 => 3 | 4 => 4 | 5 => 5 | 105 => 231 | 119 => 179 | 0 => 0 | 46 => 103 | 139 => 182 | 138 => 181 | n => n, fun | 3 => 3 | 4 => 4 | n => n⟩
theorem Tryz.lays271 : Go.Proofs.Lays.n271 Tryz.prog Tryz.lays271_ren := {
  mixed := by kernel_rfl
  f120 := Tryz.func224.trans (congrArg some (by kernel_rfl))
  f197 := Tryz.func172.trans (congrArg some (by kernel_rfl))
  f260 := Tryz.func209.trans (congrArg some (by kernel_rfl))
  f271 := Tryz.func219.trans (congrArg some (by kernel_rfl))
  t0 := Tryz.underlying0
  a0 := Tryz.isAgg0
  z0 := Tryz.sizeOf0
  v0 := Tryz.zeroValue0
  t3 := Tryz.underlying3
  a3 := Tryz.isAgg3
  z3 := Tryz.sizeOf3
  v3 := Tryz.zeroValue3
  t4 := Tryz.underlying4
  a4 := Tryz.isAgg4
  z4 := Tryz.sizeOf4
  v4 := Tryz.zeroValue4
  t5 := Tryz.underlying5
  a5 := Tryz.isAgg5
  z5 := Tryz.sizeOf5
  v5 := Tryz.zeroValue5
  t9 := Tryz.underlying9
  a9 := Tryz.isAgg9
  z9 := Tryz.sizeOf9
  v9 := Tryz.zeroValue9
  t21 := Tryz.underlying21
  a21 := Tryz.isAgg21
  z21 := Tryz.sizeOf21
  v21 := Tryz.zeroValue21
  t46 := Tryz.underlying103
  a46 := Tryz.isAgg103
  z46 := Tryz.sizeOf103
  v46 := Tryz.zeroValue103
  t105 := Tryz.underlying231
  a105 := Tryz.isAgg231
  z105 := Tryz.sizeOf231
  v105 := Tryz.zeroValue231
  t119 := Tryz.underlying179
  a119 := Tryz.isAgg179
  z119 := Tryz.sizeOf179
  t138 := Tryz.underlying181
  a138 := Tryz.isAgg181
  z138 := Tryz.sizeOf181
  v138 := Tryz.zeroValue181
  t139 := Tryz.underlying182
  a139 := Tryz.isAgg182
  z139 := Tryz.sizeOf182
  v139 := Tryz.zeroValue182
  g3 := by kernel_rfl
  g4 := by kernel_rfl }
open Go.RowKit Go.Lib in
/-- **unicode/utf8.DecodeLastRuneInString AT EVERY STRING.** (LAID: no walk: one application.) -/
theorem Tryz.utf8_DecodeLastRuneInString (s : ByteArray) (w : World) (hs : s.size ≤ 9223372036854775807) (hT : Lib.Utf8Tabs 3 4 w) :
    Calls Tryz.prog 219 #[.string s] w fun e w' => e = .returned (.tuple #[.int .i32 (Lib.decodeLastL s.data.toList).1, .int .i64 (Lib.decodeLastL s.data.toList).2]) ∧ Below w.heap.size w w' := Any.utf8_DecodeLastRuneInString Tryz.lays271 s w hs hT
open Go.RowKit in
theorem Tryz.strings_TrimSpace_any (s : ByteArray) (w : World) (hs : s.size ≤ 9223372036854775807) (htab : Lib.TabIs Tryz.prog w "strings.asciiSpace" .u8 Lib.asciiSpaceTab) (hU8 : Lib.Utf8Tabs 3 4 w) (hWS : Lib.WhiteTab 11 w) :
    Calls Tryz.prog 109 #[.string s] w fun e w' => e = .returned (.string ⟨(Lib.trimSpaceD s.data.toList).toArray⟩) ∧ Below w.heap.size w w' := Any.strings_TrimSpace_any Tryz.lays163 Tryz.Space_Extra_163 s w hs htab hU8 hWS
open Go.RowKit Go.Lib in
theorem Tryz.unicode_is16_any (T : Array Rg) (R oR cap : Nat) (z : Nat) (w : World) (hz : z < 65536) (hT : RgTab .u16 R oR T w) (hok : RgOk 65536 T) (hn : T.size ≤ 1000000000) :
    Calls Tryz.prog 217 #[.slice (some ⟨R, oR, none⟩) T.size cap, .int .u16 z] w fun e w' => e = .returned (.bool (is16Go T z)) ∧ ∃ q, w' = w.drewN q := Any.unicode_is16_any Tryz.lays311 T R oR cap z w hz hT hok hn
def Tryz.lays312_ren : Go.Shelf.Ren := ⟨fun | 312 => 218 | n => n, fun | 194 => 265 | 51 => 145 | 4 => 4 | 3 => 3 | 0 => 0 | 227 => 282 | 201 => 273 | 46 => 103 | n => n, fun | n => n⟩
theorem Tryz.lays312 : Go.Proofs.Lays.n312 Tryz.prog Tryz.lays312_ren := {
  mixed := by kernel_rfl
  f312 := Tryz.func218.trans (congrArg some (by kernel_rfl))
  t0 := Tryz.underlying0
  a0 := Tryz.isAgg0
  z0 := Tryz.sizeOf0
  v0 := Tryz.zeroValue0
  t3 := Tryz.underlying3
  a3 := Tryz.isAgg3
  z3 := Tryz.sizeOf3
  v3 := Tryz.zeroValue3
  t4 := Tryz.underlying4
  a4 := Tryz.isAgg4
  z4 := Tryz.sizeOf4
  v4 := Tryz.zeroValue4
  t46 := Tryz.underlying103
  a46 := Tryz.isAgg103
  z46 := Tryz.sizeOf103
  v46 := Tryz.zeroValue103
  t51 := Tryz.underlying145
  a51 := Tryz.isAgg145
  z51 := Tryz.sizeOf145
  v51 := Tryz.zeroValue145
  t194 := Tryz.underlying265
  a194 := Tryz.isAgg265
  z194 := Tryz.sizeOf265
  v194 := Tryz.zeroValue265
  t201 := Tryz.underlying273
  a201 := Tryz.isAgg273
  z201 := Tryz.sizeOf273
  v201 := Tryz.zeroValue273
  t227 := Tryz.underlying282
  a227 := Tryz.isAgg282
  z227 := Tryz.sizeOf282
  v227 := Tryz.zeroValue282 }
open Go.RowKit Go.Lib in
theorem Tryz.unicode_is32_any (T : Array Rg) (R oR cap : Nat) (z : Nat) (w : World) (hz : z < 4294967296) (hT : RgTab .u32 R oR T w) (hok : RgOk 4294967296 T) (hn : T.size ≤ 1000000000) :
    Calls Tryz.prog 218 #[.slice (some ⟨R, oR, none⟩) T.size cap, .int .u32 z] w fun e w' => e = .returned (.bool (is32Go T z)) ∧ Below w.heap.size w w' := Any.unicode_is32_any Tryz.lays312 T R oR cap z w hz hT hok hn
open Go.RowKit Go.Lib in
theorem Tryz.unicode_isExcludingLatin_any (Tb oT : Nat) (T : RTab) (r : Int) (w : World) (hlo : -2147483648 ≤ r) (hhi : r ≤ 2147483647) (hA : RTabAt Tb oT T w) (hok : RTabOk T) :
    Calls Tryz.prog 194 #[.pointer (some ⟨Tb, oT, none⟩), .int .i32 r] w fun e w' => e = .returned (.bool (exclGo T r)) ∧ Below w.heap.size w w' := Any.unicode_isExcludingLatin_any Tryz.lays261 Tb oT T r w hlo hhi hA hok
def Tryz.lays193_ren : Go.Shelf.Ren := ⟨fun | 193 => 35 | n => n, fun | 31 => 54 | 9 => 9 | 4 => 4 | 3 => 3 | 0 => 0 | n => n, fun | n => n⟩
theorem Tryz.lays193 : Go.Proofs.Lays.n193 Tryz.prog Tryz.lays193_ren := {
  mixed := by kernel_rfl
  f193 := Tryz.func35.trans (congrArg some (by kernel_rfl))
  t0 := Tryz.underlying0
  a0 := Tryz.isAgg0
  z0 := Tryz.sizeOf0
  v0 := Tryz.zeroValue0
  t3 := Tryz.underlying3
  a3 := Tryz.isAgg3
  z3 := Tryz.sizeOf3
  v3 := Tryz.zeroValue3
  t4 := Tryz.underlying4
  a4 := Tryz.isAgg4
  z4 := Tryz.sizeOf4
  v4 := Tryz.zeroValue4
  t9 := Tryz.underlying9
  a9 := Tryz.isAgg9
  z9 := Tryz.sizeOf9
  v9 := Tryz.zeroValue9
  t31 := Tryz.underlying54
  a31 := Tryz.isAgg54
  z31 := Tryz.sizeOf54
  v31 := Tryz.zeroValue54 }
open Go.RowKit Go.Lib in
/-- slices.Equal at []string: "Equal reports whether two slices are equal: the same length and all elements equal. If the lengths are different, Equal returns false. Otherwise, the elements are compared in increasing index order, and the comparison stops at the first unequal pair. Empty and nil slices are considered equal.": IT RETURNS WHETHER THE TWO LISTS OF ELEMENTS ARE ONE; the world is as it was but for the count of draws (the test 's1[i] != s2[i]' has two reads, whose order the model draws, once a round). 'xs', 'ys': what the cells behind the two addresses hold (the spare capacity too, if you have it); 'xs.take n', 'ys.take m': the elements. THE TWO SLICES MAY OVERLAP. (LAID: no walk: one application.) -/
theorem Tryz.slices_Equal_string (b1 o1 n c b2 o2 m d : Nat) (xs ys : List ByteArray) (w : World) (hx : n ≤ xs.length) (hy : m ≤ ys.length) (hbig : n ≤ 9223372036854775807) (hbig2 : m ≤ 9223372036854775807) (hc1 : ∀ j, j < xs.length → w.cell? ⟨b1, o1 + j, none⟩ = some (.string (xs.getD j ByteArray.empty))) (hc2 : ∀ j, j < ys.length → w.cell? ⟨b2, o2 + j, none⟩ = some (.string (ys.getD j ByteArray.empty))) :
    Calls Tryz.prog 35 #[.slice (some ⟨b1, o1, none⟩) n c, .slice (some ⟨b2, o2, none⟩) m d] w fun e w' => e = .returned (.bool (decide (xs.take n = ys.take m))) ∧ ∃ q, w' = w.drewN q := Any.slices_Equal_string Tryz.lays193 b1 o1 n c b2 o2 m d xs ys w hx hy hbig hbig2 hc1 hc2
open Go.RowKit Go.Lib in
/-- The same where the first is of length 0 (a nil one too): no cell is asked for. (LAID: no walk: one application.) -/
theorem Tryz.slices_Equal_string_empty (a1 a2 : Option Addr) (c m d : Nat) (w : World) (hbig2 : m ≤ 9223372036854775807) :
    Calls Tryz.prog 35 #[.slice a1 0 c, .slice a2 m d] w fun e w' => e = .returned (.bool (decide (m = 0))) ∧ w' = w := Any.slices_Equal_string_empty Tryz.lays193 a1 a2 c m d w hbig2
open Go.RowKit Go.Sort in
/-- .. and plain. (LAID: no walk: one application.) -/
theorem Tryz.slices_Sort_string_none (p : Option Addr) (cap : Nat) (w : World) :
    Calls Tryz.prog 69 #[.slice p 0 cap] w fun e w' => e = .returned (.tuple #[]) ∧ w' = w := Any.slices_Sort_string_none Tryz.lays190 p cap w
open Go.RowKit Go.Lib in
theorem Tryz.slices_Equal_string_lens (a1 a2 : Option Addr) (n c m d : Nat) (w : World) (hnm : n ≠ m) :
    Calls Tryz.prog 35 #[.slice a1 n c, .slice a2 m d] w fun e w' => e = .returned (.bool false) ∧ w' = w := Any.slices_Equal_string_lens Tryz.lays193 a1 a2 n c m d w hnm
def Tryz.laysGg36_ren : Go.Shelf.Ren := ⟨fun | 36 => 213 | n => n, fun | 66 => 279 | 51 => 148 | 0 => 0 | 60 => 261 | 41 => 103 | n => n, fun | n => n⟩
theorem Tryz.laysGg36 : Go.Proofs.LaysGg.n36 Tryz.prog Tryz.laysGg36_ren := {
  mixed := by kernel_rfl
  f36 := Tryz.func213.trans (congrArg some (by kernel_rfl))
  t0 := Tryz.underlying0
  a0 := Tryz.isAgg0
  z0 := Tryz.sizeOf0
  v0 := Tryz.zeroValue0
  i0 := by kernel_rfl
  t41 := Tryz.underlying103
  a41 := Tryz.isAgg103
  z41 := Tryz.sizeOf103
  v41 := Tryz.zeroValue103
  i41 := by kernel_rfl
  t51 := Tryz.underlying148
  a51 := Tryz.isAgg148
  z51 := Tryz.sizeOf148
  v51 := Tryz.zeroValue148
  i51 := by kernel_rfl
  t60 := Tryz.underlying261
  a60 := Tryz.isAgg261
  z60 := Tryz.sizeOf261
  v60 := Tryz.zeroValue261
  i60 := by kernel_rfl
  t66 := Tryz.underlying279
  a66 := Tryz.isAgg279
  z66 := Tryz.sizeOf279
  v66 := Tryz.zeroValue279
  i66 := by kernel_rfl }
open Go.RowKit Go.Lib Go.Sort in
/-- '*r ^= *r << 13; *r ^= *r >> 7; *r ^= *r << 17; return uint64(*r)': the cell holds 'xorNextN X' and that is handed back; three draws; nothing else turns. (LAID: no walk: one application.) -/
theorem Tryz.xorshift_Next (rb ro X : Nat) (hX : X < 18446744073709551616) (w : World) (hc : w.cell? ⟨rb, ro, none⟩ = some (.int .u64 X)) (hf : w.frozen? ⟨rb, ro, none⟩ = false) :
    Calls Tryz.prog 213 #[.pointer (some ⟨rb, ro, none⟩)] w fun e w' => e = .returned (.int .u64 (xorNextN X : Nat)) ∧ w' = (w.setCell ⟨rb, ro, none⟩ (.int .u64 (xorNextN X : Nat))).drewN 3 := Any.xorshift_Next Tryz.laysGg36 rb ro X hX w hc hf
def Tryz.laysGg35_ren : Go.Shelf.Ren := ⟨fun | 35 => 212 | 13 => 113 | 24 => 160 | 25 => 161 | n => n, fun | 3 => 3 | 41 => 103 | 49 => 145 | 51 => 148 | 4 => 4 | 5 => 5 | 9 => 9 | n => n, fun | n => n⟩
theorem Tryz.laysGg35 : Go.Proofs.LaysGg.n35 Tryz.prog Tryz.laysGg35_ren := {
  mixed := by kernel_rfl
  f13 := Tryz.func113.trans (congrArg some (by kernel_rfl))
  f24 := Tryz.func160.trans (congrArg some (by kernel_rfl))
  f25 := Tryz.func161.trans (congrArg some (by kernel_rfl))
  f35 := Tryz.func212.trans (congrArg some (by kernel_rfl))
  t3 := Tryz.underlying3
  a3 := Tryz.isAgg3
  z3 := Tryz.sizeOf3
  v3 := Tryz.zeroValue3
  i3 := by kernel_rfl
  t4 := Tryz.underlying4
  a4 := Tryz.isAgg4
  z4 := Tryz.sizeOf4
  v4 := Tryz.zeroValue4
  i4 := by kernel_rfl
  t5 := Tryz.underlying5
  a5 := Tryz.isAgg5
  z5 := Tryz.sizeOf5
  v5 := Tryz.zeroValue5
  i5 := by kernel_rfl
  t9 := Tryz.underlying9
  a9 := Tryz.isAgg9
  z9 := Tryz.sizeOf9
  v9 := Tryz.zeroValue9
  i9 := by kernel_rfl
  t41 := Tryz.underlying103
  a41 := Tryz.isAgg103
  z41 := Tryz.sizeOf103
  v41 := Tryz.zeroValue103
  i41 := by kernel_rfl
  t49 := Tryz.underlying145
  a49 := Tryz.isAgg145
  z49 := Tryz.sizeOf145
  v49 := Tryz.zeroValue145
  i49 := by kernel_rfl
  t51 := Tryz.underlying148
  a51 := Tryz.isAgg148
  z51 := Tryz.sizeOf148
  v51 := Tryz.zeroValue148
  i51 := by kernel_rfl }
open Go.RowKit Go.Lib Go.Sort in
/-- 'return 1 << bits.Len(uint(length))'. (LAID: no walk: one application.) -/
theorem Tryz.nextPowerOfTwo (n : Nat) (hn : n < 4611686018427387904) (w : World) :
    Calls Tryz.prog 212 #[.int .i64 n] w fun e w' => e = .returned (.int .u64 ((1 <<< bitsLen n : Nat) : Int)) ∧ w' = w := Any.nextPowerOfTwo Tryz.laysGg35 n hn w
open Go.RowKit Go.Lib Go.Sort in
/-- sort.insertionSort_func, from a world to a 'sortWorld' of it. (LAID: no walk: one application.) -/
theorem Tryz.insertionSort_func_cells_w {α : Type} [Inhabited α] (enc : α → List Value) (k : Nat) (hk : ∀ x, (enc x).length = k) (lt : α → α → Bool) (g : Nat) (lb : Array Value) (sf : Nat) (sb : Array Value) (blk off a b : Nat) (d : Array α) (w : World) (eg : ∀ args w, (callFunc g args).run Tryz.prog w = .ok (.enter g args) w) (hless : LessReadsK Tryz.prog g lb enc k lt blk off d.size w) (hswap : SwapSwapsK Tryz.prog sf sb enc k blk off d.size) (hH : HoldsK enc k w blk off d) (hblk : blk < w.heap.size) (hab : a ≤ b) (hb : b ≤ d.size) (hsz : d.size < 4611686018427387904) :
    Calls Tryz.prog 183 #[.agg #[.func (.func g) #[] lb, .func (.func sf) #[] sb], .int .i64 a, .int .i64 b] w fun e w' => e = .returned (.tuple #[]) ∧ ∃ n os, w' = sortWorldK enc k w blk off n (Sort.insertionSort lt d a b) os := Any.insertionSort_func_cells_w Tryz.laysGg26 enc k hk lt g lb sf sb blk off a b d w eg hless hswap hH hblk hab hb hsz
open Go.RowKit Go.Lib Go.Sort in
theorem Tryz.reverseRange_func_cells {α : Type} [Inhabited α] (enc : α → List Value) (k : Nat) (hk : ∀ x, (enc x).length = k) (lf : Fn) (la lb : Array Value) (sf : Nat) (sb : Array Value) (blk off a b : Nat) (d : Array α) (w : World) (hswap : SwapSwapsK Tryz.prog sf sb enc k blk off d.size) (hH : HoldsK enc k w blk off d) (hblk : blk < w.heap.size) (hab : a ≤ b) (hb : b ≤ d.size) (hsz : d.size < 4611686018427387904) :
    Calls Tryz.prog 187 #[.agg #[.func lf la lb, .func (.func sf) #[] sb], .int .i64 a, .int .i64 b] w fun e w' => e = .returned (.tuple #[]) ∧ ∃ n, w' = putRowK enc k (Sort.ahead (w.alloc (.cells #[.func lf la lb, .func (.func sf) #[] sb] 212)) n) blk off (reverseRange d a b) := Any.reverseRange_func_cells Tryz.laysGg30 enc k hk lf la lb sf sb blk off a b d w hswap hH hblk hab hb hsz
open Go.RowKit Go.Lib Go.Sort in
/-- sort.reverseRange_func, from a world to a 'sortWorld' of it. (LAID: no walk: one application.) -/
theorem Tryz.reverseRange_func_cells_w {α : Type} [Inhabited α] (enc : α → List Value) (k : Nat) (hk : ∀ x, (enc x).length = k) (lf : Fn) (la lb : Array Value) (sf : Nat) (sb : Array Value) (blk off a b : Nat) (d : Array α) (w : World) (hswap : SwapSwapsK Tryz.prog sf sb enc k blk off d.size) (hH : HoldsK enc k w blk off d) (hblk : blk < w.heap.size) (hab : a ≤ b) (hb : b ≤ d.size) (hsz : d.size < 4611686018427387904) :
    Calls Tryz.prog 187 #[.agg #[.func lf la lb, .func (.func sf) #[] sb], .int .i64 a, .int .i64 b] w fun e w' => e = .returned (.tuple #[]) ∧ ∃ n os, w' = sortWorldK enc k w blk off n (reverseRange d a b) os := Any.reverseRange_func_cells_w Tryz.laysGg30 enc k hk lf la lb sf sb blk off a b d w hswap hH hblk hab hb hsz
def Tryz.laysGg34_ren : Go.Shelf.Ren := ⟨fun | 34 => 211 | n => n, fun | 44 => 212 | 3 => 3 | 0 => 0 | 4 => 4 | 26 => 164 | 37 => 208 | n => n, fun | n => n⟩
theorem Tryz.laysGg34 : Go.Proofs.LaysGg.n34 Tryz.prog Tryz.laysGg34_ren := {
  mixed := by kernel_rfl
  f34 := Tryz.func211.trans (congrArg some (by kernel_rfl))
  t0 := Tryz.underlying0
  a0 := Tryz.isAgg0
  z0 := Tryz.sizeOf0
  v0 := Tryz.zeroValue0
  i0 := by kernel_rfl
  t3 := Tryz.underlying3
  a3 := Tryz.isAgg3
  z3 := Tryz.sizeOf3
  v3 := Tryz.zeroValue3
  i3 := by kernel_rfl
  t4 := Tryz.underlying4
  a4 := Tryz.isAgg4
  z4 := Tryz.sizeOf4
  v4 := Tryz.zeroValue4
  i4 := by kernel_rfl
  t26 := Tryz.underlying164
  a26 := Tryz.isAgg164
  z26 := Tryz.sizeOf164
  v26 := Tryz.zeroValue164
  i26 := by kernel_rfl
  t37 := Tryz.underlying208
  a37 := Tryz.isAgg208
  z37 := Tryz.sizeOf208
  v37 := Tryz.zeroValue208
  i37 := by kernel_rfl
  t44 := Tryz.underlying212
  a44 := Tryz.isAgg212
  z44 := Tryz.sizeOf212
  v44 := Tryz.zeroValue212
  i44 := by kernel_rfl }
open Go.RowKit Go.Lib Go.Sort in
theorem Tryz.siftDown_func_cells {α : Type} [Inhabited α] (enc : α → List Value) (k : Nat) (hk : ∀ x, (enc x).length = k) (lt : α → α → Bool) (g : Nat) (lb : Array Value) (sf : Nat) (sb : Array Value) (blk off lo hi first : Nat) (d : Array α) (w : World) (eg : ∀ args w, (callFunc g args).run Tryz.prog w = .ok (.enter g args) w) (hless : LessReadsK Tryz.prog g lb enc k lt blk off d.size w) (hswap : SwapSwapsK Tryz.prog sf sb enc k blk off d.size) (hH : HoldsK enc k w blk off d) (hblk : blk < w.heap.size) (hlo : lo ≤ hi) (hb : first + hi ≤ d.size) (hsz : d.size < 4611686018427387904) :
    Calls Tryz.prog 211 #[.agg #[.func (.func g) #[] lb, .func (.func sf) #[] sb], .int .i64 lo, .int .i64 hi, .int .i64 first] w fun e w' =>
      e = .returned (.tuple #[]) ∧ ∃ n, w' = putRowK enc k (Sort.ahead (w.alloc (.cells #[.func (.func g) #[] lb, .func (.func sf) #[] sb] 212)) n) blk off (siftDown lt hi first lo d) := Any.siftDown_func_cells Tryz.laysGg34 enc k hk lt g lb sf sb blk off lo hi first d w eg hless hswap hH hblk hlo hb hsz
open Go.RowKit Go.Lib Go.Sort in
/-- sort.siftDown_func, from a world to a 'sortWorld' of it. (LAID: no walk: one application.) -/
theorem Tryz.siftDown_func_cells_w {α : Type} [Inhabited α] (enc : α → List Value) (k : Nat) (hk : ∀ x, (enc x).length = k) (lt : α → α → Bool) (g : Nat) (lb : Array Value) (sf : Nat) (sb : Array Value) (blk off lo hi first : Nat) (d : Array α) (w : World) (eg : ∀ args w, (callFunc g args).run Tryz.prog w = .ok (.enter g args) w) (hless : LessReadsK Tryz.prog g lb enc k lt blk off d.size w) (hswap : SwapSwapsK Tryz.prog sf sb enc k blk off d.size) (hH : HoldsK enc k w blk off d) (hblk : blk < w.heap.size) (hlo : lo ≤ hi) (hb : first + hi ≤ d.size) (hsz : d.size < 4611686018427387904) :
    Calls Tryz.prog 211 #[.agg #[.func (.func g) #[] lb, .func (.func sf) #[] sb], .int .i64 lo, .int .i64 hi, .int .i64 first] w fun e w' => e = .returned (.tuple #[]) ∧ ∃ n os, w' = sortWorldK enc k w blk off n (siftDown lt hi first lo d) os := Any.siftDown_func_cells_w Tryz.laysGg34 enc k hk lt g lb sf sb blk off lo hi first d w eg hless hswap hH hblk hlo hb hsz
def Tryz.laysGg27_ren : Go.Shelf.Ren := ⟨fun | 27 => 184 | 34 => 211 | n => n, fun | 44 => 212 | 3 => 3 | 0 => 0 | 4 => 4 | 37 => 208 | 26 => 164 | n => n, fun | n => n⟩
theorem Tryz.laysGg27 : Go.Proofs.LaysGg.n27 Tryz.prog Tryz.laysGg27_ren := {
  mixed := by kernel_rfl
  f27 := Tryz.func184.trans (congrArg some (by kernel_rfl))
  f34 := Tryz.func211.trans (congrArg some (by kernel_rfl))
  t0 := Tryz.underlying0
  a0 := Tryz.isAgg0
  z0 := Tryz.sizeOf0
  v0 := Tryz.zeroValue0
  i0 := by kernel_rfl
  t3 := Tryz.underlying3
  a3 := Tryz.isAgg3
  z3 := Tryz.sizeOf3
  v3 := Tryz.zeroValue3
  i3 := by kernel_rfl
  t4 := Tryz.underlying4
  a4 := Tryz.isAgg4
  z4 := Tryz.sizeOf4
  v4 := Tryz.zeroValue4
  i4 := by kernel_rfl
  t26 := Tryz.underlying164
  a26 := Tryz.isAgg164
  z26 := Tryz.sizeOf164
  v26 := Tryz.zeroValue164
  i26 := by kernel_rfl
  t37 := Tryz.underlying208
  a37 := Tryz.isAgg208
  z37 := Tryz.sizeOf208
  v37 := Tryz.zeroValue208
  i37 := by kernel_rfl
  t44 := Tryz.underlying212
  a44 := Tryz.isAgg212
  z44 := Tryz.sizeOf212
  v44 := Tryz.zeroValue212
  i44 := by kernel_rfl }
open Go.RowKit Go.Lib Go.Sort in
theorem Tryz.heapSort_func_cells_w {α : Type} [Inhabited α] (enc : α → List Value) (k : Nat) (hk : ∀ x, (enc x).length = k) (lt : α → α → Bool) (g : Nat) (lb : Array Value) (sf : Nat) (sb : Array Value) (blk off a b : Nat) (d : Array α) (w : World) (eg : ∀ args w, (callFunc g args).run Tryz.prog w = .ok (.enter g args) w) (hless : LessReadsK Tryz.prog g lb enc k lt blk off d.size w) (hswap : SwapSwapsK Tryz.prog sf sb enc k blk off d.size) (hH : HoldsK enc k w blk off d) (hblk : blk < w.heap.size) (hab : a ≤ b) (hb : b ≤ d.size) (hsz : d.size < 4611686018427387904) :
    Calls Tryz.prog 184 #[.agg #[.func (.func g) #[] lb, .func (.func sf) #[] sb], .int .i64 a, .int .i64 b] w fun e w' => e = .returned (.tuple #[]) ∧ ∃ n os, w' = sortWorldK enc k w blk off n (heapSort lt d a b) os := Any.heapSort_func_cells_w Tryz.laysGg27 enc k hk lt g lb sf sb blk off a b d w eg hless hswap hH hblk hab hb hsz
def Tryz.laysGg31_ren : Go.Shelf.Ren := ⟨fun | 31 => 188 | n => n, fun | 44 => 212 | 3 => 3 | 4 => 4 | 0 => 0 | 26 => 164 | 37 => 208 | n => n, fun | n => n⟩
theorem Tryz.laysGg31 : Go.Proofs.LaysGg.n31 Tryz.prog Tryz.laysGg31_ren := {
  mixed := by kernel_rfl
  f31 := Tryz.func188.trans (congrArg some (by kernel_rfl))
  t0 := Tryz.underlying0
  a0 := Tryz.isAgg0
  z0 := Tryz.sizeOf0
  v0 := Tryz.zeroValue0
  i0 := by kernel_rfl
  t3 := Tryz.underlying3
  a3 := Tryz.isAgg3
  z3 := Tryz.sizeOf3
  v3 := Tryz.zeroValue3
  i3 := by kernel_rfl
  t4 := Tryz.underlying4
  a4 := Tryz.isAgg4
  z4 := Tryz.sizeOf4
  v4 := Tryz.zeroValue4
  i4 := by kernel_rfl
  t26 := Tryz.underlying164
  a26 := Tryz.isAgg164
  z26 := Tryz.sizeOf164
  v26 := Tryz.zeroValue164
  i26 := by kernel_rfl
  t37 := Tryz.underlying208
  a37 := Tryz.isAgg208
  z37 := Tryz.sizeOf208
  v37 := Tryz.zeroValue208
  i37 := by kernel_rfl
  t44 := Tryz.underlying212
  a44 := Tryz.isAgg212
  z44 := Tryz.sizeOf212
  v44 := Tryz.zeroValue212
  i44 := by kernel_rfl }
open Go.RowKit Go.Lib Go.Sort in
theorem Tryz.partialInsertionSort_func_cells {α : Type} [Inhabited α] (enc : α → List Value) (k : Nat) (hk : ∀ x, (enc x).length = k) (lt : α → α → Bool) (g : Nat) (lb : Array Value) (sf : Nat) (sb : Array Value) (blk off a b : Nat) (d : Array α) (w : World) (eg : ∀ args w, (callFunc g args).run Tryz.prog w = .ok (.enter g args) w) (hless : LessReadsK Tryz.prog g lb enc k lt blk off d.size w) (hswap : SwapSwapsK Tryz.prog sf sb enc k blk off d.size) (hH : HoldsK enc k w blk off d) (hblk : blk < w.heap.size) (hab : a < b) (hb : b ≤ d.size) (hsz : d.size < 4611686018427387904) :
    Calls Tryz.prog 188 #[.agg #[.func (.func g) #[] lb, .func (.func sf) #[] sb], .int .i64 a, .int .i64 b] w fun e w' =>
      e = .returned (.bool (Sort.partialInsertionSort lt d a b).2) ∧ ∃ n, w' = putRowK enc k (Sort.ahead (w.alloc (.cells #[.func (.func g) #[] lb, .func (.func sf) #[] sb] 212)) n) blk off (Sort.partialInsertionSort lt d a b).1 := Any.partialInsertionSort_func_cells Tryz.laysGg31 enc k hk lt g lb sf sb blk off a b d w eg hless hswap hH hblk hab hb hsz
open Go.RowKit Go.Lib Go.Sort in
/-- sort.partialInsertionSort_func, from a world to a 'sortWorld' of it. (LAID: no walk: one application.) -/
theorem Tryz.partialInsertionSort_func_cells_w {α : Type} [Inhabited α] (enc : α → List Value) (k : Nat) (hk : ∀ x, (enc x).length = k) (lt : α → α → Bool) (g : Nat) (lb : Array Value) (sf : Nat) (sb : Array Value) (blk off a b : Nat) (d : Array α) (w : World) (eg : ∀ args w, (callFunc g args).run Tryz.prog w = .ok (.enter g args) w) (hless : LessReadsK Tryz.prog g lb enc k lt blk off d.size w) (hswap : SwapSwapsK Tryz.prog sf sb enc k blk off d.size) (hH : HoldsK enc k w blk off d) (hblk : blk < w.heap.size) (hab : a < b) (hb : b ≤ d.size) (hsz : d.size < 4611686018427387904) :
    Calls Tryz.prog 188 #[.agg #[.func (.func g) #[] lb, .func (.func sf) #[] sb], .int .i64 a, .int .i64 b] w fun e w' => e = .returned (.bool (Sort.partialInsertionSort lt d a b).2) ∧ ∃ n os, w' = sortWorldK enc k w blk off n (Sort.partialInsertionSort lt d a b).1 os := Any.partialInsertionSort_func_cells_w Tryz.laysGg31 enc k hk lt g lb sf sb blk off a b d w eg hless hswap hH hblk hab hb hsz
open Go.RowKit Go.Lib Go.Sort in
theorem Tryz.order2_func_cells {α : Type} [Inhabited α] (enc : α → List Value) (k : Nat) (hk : ∀ x, (enc x).length = k) (lt : α → α → Bool) (g : Nat) (lb : Array Value) (sfn : Fn) (sa sb : Array Value) (blk off : Nat) (w0 W : World) (d : Array α) (a b cb co s : Nat) (eg : ∀ args w, (callFunc g args).run Tryz.prog w = .ok (.enter g args) w) (hL : LessReadsK Tryz.prog g lb enc k lt blk off d.size w0) (hW : SWK enc k w0 blk off d W) (ha : a < d.size) (hb : b < d.size) (hS : Holds (Value.int .i64) W cb co (one s)) (hcb : cb < W.heap.size) (hs : s < 4611686018427387904) :
    Calls Tryz.prog 223 #[.agg #[.func (.func g) #[] lb, .func sfn sa sb], .int .i64 a, .int .i64 b, .pointer (some ⟨cb, co, none⟩)] W fun e w' =>
      e = .returned (.tuple #[.int .i64 (order2 lt d a b s).1, .int .i64 (order2 lt d a b s).2.1]) ∧ ∃ n os, w' = sortWorld (Value.int .i64) W cb co n (one (order2 lt d a b s).2.2) os := Any.order2_func_cells Tryz.laysGg39 enc k hk lt g lb sfn sa sb blk off w0 W d a b cb co s eg hL hW ha hb hS hcb hs
open Go.RowKit Go.Lib Go.Sort in
theorem Tryz.median_func_cells {α : Type} [Inhabited α] (enc : α → List Value) (k : Nat) (hk : ∀ x, (enc x).length = k) (lt : α → α → Bool) (g : Nat) (lb : Array Value) (sfn : Fn) (sa sb : Array Value) (blk off : Nat) (w0 W : World) (d : Array α) (a b c cb co s : Nat) (eg : ∀ args w, (callFunc g args).run Tryz.prog w = .ok (.enter g args) w) (hL : LessReadsK Tryz.prog g lb enc k lt blk off d.size w0) (hW : SWK enc k w0 blk off d W) (ha : a < d.size) (hb : b < d.size) (hc : c < d.size) (hS : Holds (Value.int .i64) W cb co (one s)) (hcb0 : w0.heap.size ≤ cb) (hcb : cb < W.heap.size) (hs : s + 3 < 4611686018427387904) :
    Calls Tryz.prog 215 #[.agg #[.func (.func g) #[] lb, .func sfn sa sb], .int .i64 a, .int .i64 b, .int .i64 c, .pointer (some ⟨cb, co, none⟩)] W fun e w' =>
      e = .returned (.int .i64 (median lt d a b c s).1) ∧ ∃ n os, w' = sortWorld (Value.int .i64) W cb co n (one (median lt d a b c s).2) os := Any.median_func_cells Tryz.laysGg38 enc k hk lt g lb sfn sa sb blk off w0 W d a b c cb co s eg hL hW ha hb hc hS hcb0 hcb hs
open Go.RowKit Go.Lib Go.Sort in
theorem Tryz.medianAdjacent_func_cells {α : Type} [Inhabited α] (enc : α → List Value) (k : Nat) (hk : ∀ x, (enc x).length = k) (lt : α → α → Bool) (g : Nat) (lb : Array Value) (sfn : Fn) (sa sb : Array Value) (blk off : Nat) (w0 W : World) (d : Array α) (a cb co s : Nat) (eg : ∀ args w, (callFunc g args).run Tryz.prog w = .ok (.enter g args) w) (hL : LessReadsK Tryz.prog g lb enc k lt blk off d.size w0) (hW : SWK enc k w0 blk off d W) (ha1 : 1 ≤ a) (ha2 : a + 1 < d.size) (hsz : d.size < 4611686018427387904) (hS : Holds (Value.int .i64) W cb co (one s)) (hcb0 : w0.heap.size ≤ cb) (hcb : cb < W.heap.size) (hs : s + 3 < 4611686018427387904) :
    Calls Tryz.prog 214 #[.agg #[.func (.func g) #[] lb, .func sfn sa sb], .int .i64 a, .pointer (some ⟨cb, co, none⟩)] W fun e w' =>
      e = .returned (.int .i64 (medianAdjacent lt d a s).1) ∧ ∃ n os, w' = sortWorld (Value.int .i64) W cb co n (one (medianAdjacent lt d a s).2) os := Any.medianAdjacent_func_cells Tryz.laysGg37 enc k hk lt g lb sfn sa sb blk off w0 W d a cb co s eg hL hW ha1 ha2 hsz hS hcb0 hcb hs
open Go.RowKit Go.Lib Go.Sort in
/-- sort.choosePivot_func: THE LIBRARY's OWN TEXT COMPUTES 'Sort.choosePivot lt d a b'; the row is not turned; W is grown. (After Derived/Sort/Walk11.lean's 'So.choosePivot_int', row for row.) (LAID: no walk: one application.) -/
theorem Tryz.choosePivot_func_cells {α : Type} [Inhabited α] (enc : α → List Value) (k : Nat) (hk : ∀ x, (enc x).length = k) (lt : α → α → Bool) (g : Nat) (lb : Array Value) (sfn : Fn) (sa sb : Array Value) (blk off a b : Nat) (W : World) (d : Array α) (eg : ∀ args w, (callFunc g args).run Tryz.prog w = .ok (.enter g args) w) (hless : LessReadsK Tryz.prog g lb enc k lt blk off d.size W) (hH : HoldsK enc k W blk off d) (hab : a < b) (hb : b ≤ d.size) (hsz : d.size < 4611686018427387904) :
    Calls Tryz.prog 186 #[.agg #[.func (.func g) #[] lb, .func sfn sa sb], .int .i64 a, .int .i64 b] W fun e w' =>
      e = .returned (.tuple #[.int .i64 (choosePivot lt d a b).1, .int .i64 (hintCode (choosePivot lt d a b).2)]) ∧ ∃ n os, w' = grow (Sort.ahead W n) os := Any.choosePivot_func_cells Tryz.laysGg29 enc k hk lt g lb sfn sa sb blk off a b W d eg hless hH hab hb hsz
open Go.RowKit Go.Lib Go.Sort in
theorem Tryz.partitionEqual_func_cells {α : Type} [Inhabited α] (enc : α → List Value) (k : Nat) (hk : ∀ x, (enc x).length = k) (lt : α → α → Bool) (g : Nat) (lb : Array Value) (sf : Nat) (sb : Array Value) (blk off a b pivot : Nat) (d : Array α) (W : World) (eg : ∀ args w, (callFunc g args).run Tryz.prog w = .ok (.enter g args) w) (hless : LessReadsK Tryz.prog g lb enc k lt blk off d.size W) (hswap : SwapSwapsK Tryz.prog sf sb enc k blk off d.size) (hH : HoldsK enc k W blk off d) (hblk : blk < W.heap.size) (hap : a ≤ pivot) (hpb : pivot < b) (hb : b ≤ d.size) (hsz : d.size < 4611686018427387904) :
    Calls Tryz.prog 189 #[.agg #[.func (.func g) #[] lb, .func (.func sf) #[] sb], .int .i64 a, .int .i64 b, .int .i64 pivot] W fun e w' =>
      e = .returned (.int .i64 (Sort.partitionEqual lt d a b pivot).1) ∧ ∃ n, w' = (putRowK enc k (W.alloc (.cells #[.func (.func g) #[] lb, .func (.func sf) #[] sb] 212)) blk off (Sort.partitionEqual lt d a b pivot).2).drewN n := Any.partitionEqual_func_cells Tryz.laysGg32 enc k hk lt g lb sf sb blk off a b pivot d W eg hless hswap hH hblk hap hpb hb hsz
open Go.RowKit Go.Lib Go.Sort in
theorem Tryz.partition_func_cells {α : Type} [Inhabited α] (enc : α → List Value) (k : Nat) (hk : ∀ x, (enc x).length = k) (lt : α → α → Bool) (g : Nat) (lb : Array Value) (sf : Nat) (sb : Array Value) (blk off a b pivot : Nat) (d : Array α) (W : World) (eg : ∀ args w, (callFunc g args).run Tryz.prog w = .ok (.enter g args) w) (hless : LessReadsK Tryz.prog g lb enc k lt blk off d.size W) (hswap : SwapSwapsK Tryz.prog sf sb enc k blk off d.size) (hH : HoldsK enc k W blk off d) (hblk : blk < W.heap.size) (hap : a ≤ pivot) (hpb : pivot < b) (hb : b ≤ d.size) (hsz : d.size < 4611686018427387904) :
    Calls Tryz.prog 190 #[.agg #[.func (.func g) #[] lb, .func (.func sf) #[] sb], .int .i64 a, .int .i64 b, .int .i64 pivot] W fun e w' =>
      e = .returned (.tuple #[.int .i64 (Sort.partition lt d a b pivot).1, .bool (Sort.partition lt d a b pivot).2.1]) ∧ ∃ n, w' = (putRowK enc k (W.alloc (.cells #[.func (.func g) #[] lb, .func (.func sf) #[] sb] 212)) blk off (Sort.partition lt d a b pivot).2.2).drewN n := Any.partition_func_cells Tryz.laysGg33 enc k hk lt g lb sf sb blk off a b pivot d W eg hless hswap hH hblk hap hpb hb hsz
open Go.RowKit Go.Lib Go.Sort in
/-- sort.partitionEqual_func, from a world to a 'sortWorld' of it. (LAID: no walk: one application.) -/
theorem Tryz.partitionEqual_func_cells_w {α : Type} [Inhabited α] (enc : α → List Value) (k : Nat) (hk : ∀ x, (enc x).length = k) (lt : α → α → Bool) (g : Nat) (lb : Array Value) (sf : Nat) (sb : Array Value) (blk off a b pivot : Nat) (d : Array α) (W : World) (eg : ∀ args w, (callFunc g args).run Tryz.prog w = .ok (.enter g args) w) (hless : LessReadsK Tryz.prog g lb enc k lt blk off d.size W) (hswap : SwapSwapsK Tryz.prog sf sb enc k blk off d.size) (hH : HoldsK enc k W blk off d) (hblk : blk < W.heap.size) (hap : a ≤ pivot) (hpb : pivot < b) (hb : b ≤ d.size) (hsz : d.size < 4611686018427387904) :
    Calls Tryz.prog 189 #[.agg #[.func (.func g) #[] lb, .func (.func sf) #[] sb], .int .i64 a, .int .i64 b, .int .i64 pivot] W fun e w' => e = .returned (.int .i64 (Sort.partitionEqual lt d a b pivot).1) ∧ ∃ n os, w' = sortWorldK enc k W blk off n (Sort.partitionEqual lt d a b pivot).2 os := Any.partitionEqual_func_cells_w Tryz.laysGg32 enc k hk lt g lb sf sb blk off a b pivot d W eg hless hswap hH hblk hap hpb hb hsz
open Go.RowKit Go.Lib Go.Sort in
/-- sort.partition_func, from a world to a 'sortWorld' of it. (LAID: no walk: one application.) -/
theorem Tryz.partition_func_cells_w {α : Type} [Inhabited α] (enc : α → List Value) (k : Nat) (hk : ∀ x, (enc x).length = k) (lt : α → α → Bool) (g : Nat) (lb : Array Value) (sf : Nat) (sb : Array Value) (blk off a b pivot : Nat) (d : Array α) (W : World) (eg : ∀ args w, (callFunc g args).run Tryz.prog w = .ok (.enter g args) w) (hless : LessReadsK Tryz.prog g lb enc k lt blk off d.size W) (hswap : SwapSwapsK Tryz.prog sf sb enc k blk off d.size) (hH : HoldsK enc k W blk off d) (hblk : blk < W.heap.size) (hap : a ≤ pivot) (hpb : pivot < b) (hb : b ≤ d.size) (hsz : d.size < 4611686018427387904) :
    Calls Tryz.prog 190 #[.agg #[.func (.func g) #[] lb, .func (.func sf) #[] sb], .int .i64 a, .int .i64 b, .int .i64 pivot] W fun e w' => e = .returned (.tuple #[.int .i64 (Sort.partition lt d a b pivot).1, .bool (Sort.partition lt d a b pivot).2.1]) ∧ ∃ n os, w' = sortWorldK enc k W blk off n (Sort.partition lt d a b pivot).2.2 os := Any.partition_func_cells_w Tryz.laysGg33 enc k hk lt g lb sf sb blk off a b pivot d W eg hless hswap hH hblk hap hpb hb hsz
open Go.RowKit Go.Lib Go.Sort in
theorem Tryz.siftDown_func_one {α : Type} [Inhabited α] (enc : α → Value) (lt : α → α → Bool) (g : Nat) (lb : Array Value) (sf : Nat) (sb : Array Value) (blk off lo hi first : Nat) (d : Array α) (w : World) (eg : ∀ args w, (callFunc g args).run Tryz.prog w = .ok (.enter g args) w) (hless : LessReads Tryz.prog g lb enc lt blk off d.size w) (hswap : SwapSwaps Tryz.prog sf sb enc blk off d.size) (hH : Holds enc w blk off d) (hblk : blk < w.heap.size) (hlo : lo ≤ hi) (hb : first + hi ≤ d.size) (hsz : d.size < 4611686018427387904) :
    Calls Tryz.prog 211 #[.agg #[.func (.func g) #[] lb, .func (.func sf) #[] sb], .int .i64 lo, .int .i64 hi, .int .i64 first] w fun e w' =>
      e = .returned (.tuple #[]) ∧ ∃ n, w' = putRow enc (Sort.ahead (w.alloc (.cells #[.func (.func g) #[] lb, .func (.func sf) #[] sb] 212)) n) blk off (siftDown lt hi first lo d) := Any.siftDown_func_one Tryz.laysGg34 enc lt g lb sf sb blk off lo hi first d w eg hless hswap hH hblk hlo hb hsz
open Go.RowKit Go.Lib Go.Sort in
/-- sort.siftDown_func, from a world to a 'sortWorld' of it. (LAID: no walk: one application.) -/
theorem Tryz.siftDown_func_w {α : Type} [Inhabited α] (enc : α → Value) (lt : α → α → Bool) (g : Nat) (lb : Array Value) (sf : Nat) (sb : Array Value) (blk off lo hi first : Nat) (d : Array α) (w : World) (eg : ∀ args w, (callFunc g args).run Tryz.prog w = .ok (.enter g args) w) (hless : LessReads Tryz.prog g lb enc lt blk off d.size w) (hswap : SwapSwaps Tryz.prog sf sb enc blk off d.size) (hH : Holds enc w blk off d) (hblk : blk < w.heap.size) (hlo : lo ≤ hi) (hb : first + hi ≤ d.size) (hsz : d.size < 4611686018427387904) :
    Calls Tryz.prog 211 #[.agg #[.func (.func g) #[] lb, .func (.func sf) #[] sb], .int .i64 lo, .int .i64 hi, .int .i64 first] w fun e w' => e = .returned (.tuple #[]) ∧ ∃ n os, w' = sortWorld enc w blk off n (siftDown lt hi first lo d) os := Any.siftDown_func_w Tryz.laysGg34 enc lt g lb sf sb blk off lo hi first d w eg hless hswap hH hblk hlo hb hsz
open Go.RowKit Go.Lib Go.Sort in
theorem Tryz.heapSort_func_w {α : Type} [Inhabited α] (enc : α → Value) (lt : α → α → Bool) (g : Nat) (lb : Array Value) (sf : Nat) (sb : Array Value) (blk off a b : Nat) (d : Array α) (w : World) (eg : ∀ args w, (callFunc g args).run Tryz.prog w = .ok (.enter g args) w) (hless : LessReads Tryz.prog g lb enc lt blk off d.size w) (hswap : SwapSwaps Tryz.prog sf sb enc blk off d.size) (hH : Holds enc w blk off d) (hblk : blk < w.heap.size) (hab : a ≤ b) (hb : b ≤ d.size) (hsz : d.size < 4611686018427387904) :
    Calls Tryz.prog 184 #[.agg #[.func (.func g) #[] lb, .func (.func sf) #[] sb], .int .i64 a, .int .i64 b] w fun e w' => e = .returned (.tuple #[]) ∧ ∃ n os, w' = sortWorld enc w blk off n (heapSort lt d a b) os := Any.heapSort_func_w Tryz.laysGg27 enc lt g lb sf sb blk off a b d w eg hless hswap hH hblk hab hb hsz
open Go.RowKit Go.Lib Go.Sort in
theorem Tryz.partialInsertionSort_func_one {α : Type} [Inhabited α] (enc : α → Value) (lt : α → α → Bool) (g : Nat) (lb : Array Value) (sf : Nat) (sb : Array Value) (blk off a b : Nat) (d : Array α) (w : World) (eg : ∀ args w, (callFunc g args).run Tryz.prog w = .ok (.enter g args) w) (hless : LessReads Tryz.prog g lb enc lt blk off d.size w) (hswap : SwapSwaps Tryz.prog sf sb enc blk off d.size) (hH : Holds enc w blk off d) (hblk : blk < w.heap.size) (hab : a < b) (hb : b ≤ d.size) (hsz : d.size < 4611686018427387904) :
    Calls Tryz.prog 188 #[.agg #[.func (.func g) #[] lb, .func (.func sf) #[] sb], .int .i64 a, .int .i64 b] w fun e w' =>
      e = .returned (.bool (Sort.partialInsertionSort lt d a b).2) ∧ ∃ n, w' = putRow enc (Sort.ahead (w.alloc (.cells #[.func (.func g) #[] lb, .func (.func sf) #[] sb] 212)) n) blk off (Sort.partialInsertionSort lt d a b).1 := Any.partialInsertionSort_func_one Tryz.laysGg31 enc lt g lb sf sb blk off a b d w eg hless hswap hH hblk hab hb hsz
open Go.RowKit Go.Lib Go.Sort in
/-- sort.partialInsertionSort_func, from a world to a 'sortWorld' of it. (LAID: no walk: one application.) -/
theorem Tryz.partialInsertionSort_func_w {α : Type} [Inhabited α] (enc : α → Value) (lt : α → α → Bool) (g : Nat) (lb : Array Value) (sf : Nat) (sb : Array Value) (blk off a b : Nat) (d : Array α) (w : World) (eg : ∀ args w, (callFunc g args).run Tryz.prog w = .ok (.enter g args) w) (hless : LessReads Tryz.prog g lb enc lt blk off d.size w) (hswap : SwapSwaps Tryz.prog sf sb enc blk off d.size) (hH : Holds enc w blk off d) (hblk : blk < w.heap.size) (hab : a < b) (hb : b ≤ d.size) (hsz : d.size < 4611686018427387904) :
    Calls Tryz.prog 188 #[.agg #[.func (.func g) #[] lb, .func (.func sf) #[] sb], .int .i64 a, .int .i64 b] w fun e w' => e = .returned (.bool (Sort.partialInsertionSort lt d a b).2) ∧ ∃ n os, w' = sortWorld enc w blk off n (Sort.partialInsertionSort lt d a b).1 os := Any.partialInsertionSort_func_w Tryz.laysGg31 enc lt g lb sf sb blk off a b d w eg hless hswap hH hblk hab hb hsz
open Go.RowKit Go.Lib Go.Sort in
theorem Tryz.pdqsort_func_cells_all {α : Type} [Inhabited α] (enc : α → List Value) (k : Nat) (hk : ∀ x, (enc x).length = k) (lt : α → α → Bool) (hO : SWO lt) (g : Nat) (lb : Array Value) (sf : Nat) (sb : Array Value) (eg : ∀ args w, (callFunc g args).run Tryz.prog w = .ok (.enter g args) w) :
    ∀ (N blk off a b limit : Nat) (d : Array α) (w : World), b - a < N → LessReadsK Tryz.prog g lb enc k lt blk off d.size w → SwapSwapsK Tryz.prog sf sb enc k blk off d.size → HoldsK enc k w blk off d → blk < w.heap.size → a ≤ b → b ≤ d.size → d.size < 4611686018427387904 → limit < 4611686018427387904 → Below lt a b d →
    Calls Tryz.prog 139 #[.agg #[.func (.func g) #[] lb, .func (.func sf) #[] sb], .int .i64 a, .int .i64 b, .int .i64 limit] w fun e w' => e = .returned (.tuple #[]) ∧ AtK enc k w blk off (pdq lt d a b limit true true) w' := Any.pdqsort_func_cells_all Tryz.laysGg14 enc k hk lt hO g lb sf sb eg
def Tryz.laysValid_ren : Go.Shelf.Ren := ⟨fun | 196 => 70 | 259 => 114 | n => n, fun | 9 => 9 | 4 => 4 | 3 => 3 | 5 => 5 | 12 => 12 | 119 => 179 | 0 => 0 | 46 => 103 | 139 => 182 | 138 => 181 | 53 => 148 | n => n, fun | 3 => 3 | 4 => 4 | n => n⟩
theorem Tryz.laysValid : Go.Proofs.Lays.n196 Tryz.prog Tryz.laysValid_ren := {
  mixed := by kernel_rfl
  f196 := Tryz.func70.trans (congrArg some (by kernel_rfl))
  f259 := Tryz.func114.trans (congrArg some (by kernel_rfl))
  t0 := Tryz.underlying0
  a0 := Tryz.isAgg0
  z0 := Tryz.sizeOf0
  v0 := Tryz.zeroValue0
  t3 := Tryz.underlying3
  a3 := Tryz.isAgg3
  z3 := Tryz.sizeOf3
  v3 := Tryz.zeroValue3
  t4 := Tryz.underlying4
  a4 := Tryz.isAgg4
  z4 := Tryz.sizeOf4
  v4 := Tryz.zeroValue4
  t5 := Tryz.underlying5
  a5 := Tryz.isAgg5
  z5 := Tryz.sizeOf5
  v5 := Tryz.zeroValue5
  t9 := Tryz.underlying9
  a9 := Tryz.isAgg9
  z9 := Tryz.sizeOf9
  v9 := Tryz.zeroValue9
  t12 := Tryz.underlying12
  a12 := Tryz.isAgg12
  z12 := Tryz.sizeOf12
  v12 := Tryz.zeroValue12
  t46 := Tryz.underlying103
  a46 := Tryz.isAgg103
  z46 := Tryz.sizeOf103
  v46 := Tryz.zeroValue103
  t53 := Tryz.underlying148
  a53 := Tryz.isAgg148
  z53 := Tryz.sizeOf148
  v53 := Tryz.zeroValue148
  t119 := Tryz.underlying179
  a119 := Tryz.isAgg179
  z119 := Tryz.sizeOf179
  t138 := Tryz.underlying181
  a138 := Tryz.isAgg181
  z138 := Tryz.sizeOf181
  v138 := Tryz.zeroValue181
  t139 := Tryz.underlying182
  a139 := Tryz.isAgg182
  z139 := Tryz.sizeOf182
  v139 := Tryz.zeroValue182
  g3 := by kernel_rfl
  g4 := by kernel_rfl }
open Go.RowKit Go.Lib in
/-- unicode/utf8.ValidString -/
theorem Tryz.utf8_ValidString (s : ByteArray) (w : World) (hs : s.size ≤ 9223372036854775807) (hT : Lib.Utf8Tabs 3 4 w) :
    Calls Tryz.prog 70 #[.string s] w fun e w' => e = .returned (.bool (Lib.validD s.data.toList)) ∧ Below w.heap.size w w' := Any.utf8_ValidString Tryz.laysValid s w hs hT
end Go.Proofs
