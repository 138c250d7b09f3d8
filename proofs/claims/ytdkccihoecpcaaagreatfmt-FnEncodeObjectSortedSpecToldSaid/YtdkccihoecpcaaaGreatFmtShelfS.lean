/-
  DERIVED: THE SHELF's CONTRACTS AT THIS DUMP, IN PLAIN WORDS (tools/lay-plain.mjs out of 'TryzShelf.lean', which tools/lay-shelf.mjs wrote): THE SAME DECLARATIONS UNDER THE SAME NAMES: 'import', 'namespace', 'open', 'def', 'theorem' AND NOTHING ELSE: no command of the shelf's: FOR A HAND-IN. Each laying: the table of numbers ('.._ren') and one theorem, a field a fact of the dump's own or the kernel's comparison; each contract: ONE APPLICATION.
-/
import Derived.Shelf.Strings.Builder1
import Derived.Shelf.Small.Utf8
import Derived.Shelf.Small.Bits
import Derived.Shelf.Strings.BuilderF
import Derived.Shelf.Strings.BuilderK
import Derived.Shelf.Strconv.Itoa0
import Derived.Shelf.Strconv.Itoa1
import Derived.Shelf.LaysM
import Derived.Shelf.Strconv.Itoa2
import Derived.Shelf.Bytes.Len
import Derived.Shelf.Bytes.TryGrow
import Derived.Shelf.Bytes.GrowSliceCatch
import Derived.Shelf.Bytes.GrowSlice
import Derived.Shelf.Bytes.Bytes
import Derived.Shelf.Bytes.GrowRow0Kept
import Derived.Shelf.Bytes.GrowRowKept
import Derived.Shelf.Bytes.GrowNilKept
import Derived.Shelf.Bytes.GrowKept
import Derived.Shelf.Bytes.WriteByteKept
import Derived.Shelf.Bytes.WriteStringKept
import Derived.Shelf.Bytes.ResetKept
import Derived.Shelf.Bytes.WriteKept
import Derived.Shelf.Bytes.BufferK
import Derived.Ground.GgsProg
import Derived.Shelf.GgSortFunc.Insertion
import Derived.Shelf.GgSortFunc.Small
import Derived.Shelf.Bytes.GrowRow0Own
import Derived.Shelf.GgSortFunc.InsertionK
import Derived.Shelf.Bytes.GrowRowOwn
import Derived.Shelf.GgSortFunc.SmallK
import Derived.Shelf.Bytes.GrowNilOwn
import Derived.Shelf.GgSortFunc.Tiny
import Derived.Shelf.Bytes.GrowOwn
import Derived.Shelf.GgSortFunc.Compose
import Derived.Shelf.Bytes.WriteAny
import Derived.Shelf.GgSortFunc.LotD
import Derived.Shelf.Unicode.Decode
import Derived.Shelf.Bits.Mul64
import Derived.Shelf.Unicode.DecodeSlow
import Derived.Shelf.Unicode.DecodeAny
import Derived.Shelf.SlSortFunc.Xorshift
import Derived.Shelf.SlSortFuncK.ComposeK
import Derived.Shelf.SlSortFuncK.SiftDownK
import Derived.Shelf.SlSortFuncK.HeapSortK
import Derived.Shelf.SlSortFuncK.PartialInsertionK
import Derived.Test.YtdkccihoecpcaaaGreatFmtProg
namespace Go.Proofs
open Go.Shelf
def Tryz.lays169_ren : Go.Shelf.Ren := ⟨fun | 169 => 34 | n => n, fun | 70 => 59 | 9 => 9 | 0 => 0 | 72 => 61 | 37 => 29 | 127 => 92 | 3 => 3 | 5 => 5 | n => n, fun | n => n⟩
theorem Tryz.lays169 : Go.Proofs.Lays.n169 Tryz.prog Tryz.lays169_ren := {
  mixed := by kernel_rfl
  f169 := Tryz.func34.trans (congrArg some (by kernel_rfl))
  t0 := Tryz.underlying0
  a0 := Tryz.isAgg0
  z0 := Tryz.sizeOf0
  v0 := Tryz.zeroValue0
  t3 := Tryz.underlying3
  a3 := Tryz.isAgg3
  z3 := Tryz.sizeOf3
  v3 := Tryz.zeroValue3
  t9 := Tryz.underlying9
  a9 := Tryz.isAgg9
  z9 := Tryz.sizeOf9
  v9 := Tryz.zeroValue9
  t37 := Tryz.underlying29
  a37 := Tryz.isAgg29
  z37 := Tryz.sizeOf29
  v37 := Tryz.zeroValue29
  t70 := Tryz.underlying59
  a70 := Tryz.isAgg59
  z70 := Tryz.sizeOf59
  v70 := Tryz.zeroValue59
  t72 := Tryz.underlying61
  a72 := Tryz.isAgg61
  z72 := Tryz.sizeOf61
  v72 := Tryz.zeroValue61
  t127 := Tryz.underlying92
  a127 := Tryz.isAgg92
  z127 := Tryz.sizeOf92
  v127 := Tryz.zeroValue92 }
theorem Tryz.Builder_Extra_169 : Builder.Extra Tryz.prog Tryz.lays169_ren := {
  sizeBuilder := by kernel_rfl
  liesBuilder := by kernel_rfl
  t5 := Tryz.underlying5
  a5 := Tryz.isAgg5
  z5 := Tryz.sizeOf5
  v5 := Tryz.zeroValue5
  infoByte := by kernel_rfl
  cellsByte := by kernel_rfl
  sizeByte := by kernel_rfl
  neB5 := by decide }
open Go.RowKit in
/-- (*strings.Builder).String: "String returns the accumulated string.": WHATEVER THE BUILDER HOLDS; THE FORM '_k': OVER 'Lib.IsBuilderF' (a builder that 'String()' may have read), AND WITH THE FRAME THAT REACHES ABOVE THE BUILDER: 'Lib.OthersKept': every block that is not b and is no row of uint8's stands as it stood: the iterator of a range among them. (LAID: no walk: one application.) -/
theorem Tryz.Builder_String_any_k (B b : Nat) (l : List UInt8) (w : World) (h : Lib.IsBuilderF 61 5 B b (Lib.byteCells l) w) (hBw : B ≤ w.heap.size) :
    Calls Tryz.prog 34 #[.pointer (some ⟨b, 0, none⟩)] w fun e w' => e = .returned (.string ⟨l.toArray⟩) ∧ (Lib.IsBuilderF 61 5 B b (Lib.byteCells l) w' ∧ Below B w w' ∧ Lib.OthersKept 5 (some b) w w') := Any.Builder_String_any_k Tryz.lays169 Tryz.Builder_Extra_169 B b l w h hBw
def Tryz.lays240_ren : Go.Shelf.Ren := ⟨fun | 240 => 285 | 276 => 286 | n => n, fun | 0 => 0 | 4 => 4 | 9 => 9 | 20 => 20 | 70 => 59 | 72 => 61 | 164 => 130 | 37 => 29 | n => n, fun | n => n⟩
theorem Tryz.lays240 : Go.Proofs.Lays.n240 Tryz.prog Tryz.lays240_ren := {
  mixed := by kernel_rfl
  f240 := Tryz.func285.trans (congrArg some (by kernel_rfl))
  f276 := Tryz.func286.trans (congrArg some (by kernel_rfl))
  t0 := Tryz.underlying0
  a0 := Tryz.isAgg0
  z0 := Tryz.sizeOf0
  v0 := Tryz.zeroValue0
  t4 := Tryz.underlying4
  a4 := Tryz.isAgg4
  z4 := Tryz.sizeOf4
  v4 := Tryz.zeroValue4
  t9 := Tryz.underlying9
  a9 := Tryz.isAgg9
  z9 := Tryz.sizeOf9
  v9 := Tryz.zeroValue9
  t20 := Tryz.underlying20
  a20 := Tryz.isAgg20
  z20 := Tryz.sizeOf20
  v20 := Tryz.zeroValue20
  t70 := Tryz.underlying59
  a70 := Tryz.isAgg59
  z70 := Tryz.sizeOf59
  v70 := Tryz.zeroValue59
  t72 := Tryz.underlying61
  a72 := Tryz.isAgg61
  z72 := Tryz.sizeOf61
  v72 := Tryz.zeroValue61
  t164 := Tryz.underlying130
  a164 := Tryz.isAgg130
  z164 := Tryz.sizeOf130
  v164 := Tryz.zeroValue130 }
def Tryz.lays167_ren : Go.Shelf.Ren := ⟨fun | 167 => 283 | 240 => 285 | 276 => 286 | n => n, fun | 0 => 0 | 4 => 4 | 5 => 5 | 9 => 9 | 20 => 20 | 37 => 29 | 70 => 59 | 72 => 61 | 75 => 31 | 164 => 130 | 80 => 53 | n => n, fun | n => n⟩
theorem Tryz.lays167 : Go.Proofs.Lays.n167 Tryz.prog Tryz.lays167_ren := {
  mixed := by kernel_rfl
  f167 := Tryz.func283.trans (congrArg some (by kernel_rfl))
  f240 := Tryz.func285.trans (congrArg some (by kernel_rfl))
  f276 := Tryz.func286.trans (congrArg some (by kernel_rfl))
  t0 := Tryz.underlying0
  a0 := Tryz.isAgg0
  z0 := Tryz.sizeOf0
  v0 := Tryz.zeroValue0
  t4 := Tryz.underlying4
  a4 := Tryz.isAgg4
  z4 := Tryz.sizeOf4
  v4 := Tryz.zeroValue4
  t5 := Tryz.underlying5
  a5 := Tryz.isAgg5
  z5 := Tryz.sizeOf5
  v5 := Tryz.zeroValue5
  t9 := Tryz.underlying9
  a9 := Tryz.isAgg9
  z9 := Tryz.sizeOf9
  v9 := Tryz.zeroValue9
  t20 := Tryz.underlying20
  a20 := Tryz.isAgg20
  z20 := Tryz.sizeOf20
  v20 := Tryz.zeroValue20
  t37 := Tryz.underlying29
  a37 := Tryz.isAgg29
  z37 := Tryz.sizeOf29
  v37 := Tryz.zeroValue29
  t70 := Tryz.underlying59
  a70 := Tryz.isAgg59
  z70 := Tryz.sizeOf59
  v70 := Tryz.zeroValue59
  t72 := Tryz.underlying61
  a72 := Tryz.isAgg61
  z72 := Tryz.sizeOf61
  v72 := Tryz.zeroValue61
  t75 := Tryz.underlying31
  a75 := Tryz.isAgg31
  z75 := Tryz.sizeOf31
  v75 := Tryz.zeroValue31
  t164 := Tryz.underlying130
  a164 := Tryz.isAgg130
  z164 := Tryz.sizeOf130
  v164 := Tryz.zeroValue130 }
def Tryz.lays166_ren : Go.Shelf.Ren := ⟨fun | 166 => 284 | 240 => 285 | 276 => 286 | n => n, fun | 0 => 0 | 3 => 3 | 4 => 4 | 9 => 9 | 20 => 20 | 37 => 29 | 70 => 59 | 72 => 61 | 75 => 31 | 164 => 130 | 5 => 5 | 80 => 53 | n => n, fun | n => n⟩
theorem Tryz.lays166 : Go.Proofs.Lays.n166 Tryz.prog Tryz.lays166_ren := {
  mixed := by kernel_rfl
  f166 := Tryz.func284.trans (congrArg some (by kernel_rfl))
  f240 := Tryz.func285.trans (congrArg some (by kernel_rfl))
  f276 := Tryz.func286.trans (congrArg some (by kernel_rfl))
  t0 := Tryz.underlying0
  a0 := Tryz.isAgg0
  z0 := Tryz.sizeOf0
  v0 := Tryz.zeroValue0
  t3 := Tryz.underlying3
  a3 := Tryz.isAgg3
  z3 := Tryz.sizeOf3
  v3 := Tryz.zeroValue3
  t4 := Tryz.underlying4
  a4 := Tryz.isAgg4
  z4 := Tryz.sizeOf4
  v4 := Tryz.zeroValue4
  t9 := Tryz.underlying9
  a9 := Tryz.isAgg9
  z9 := Tryz.sizeOf9
  v9 := Tryz.zeroValue9
  t20 := Tryz.underlying20
  a20 := Tryz.isAgg20
  z20 := Tryz.sizeOf20
  v20 := Tryz.zeroValue20
  t37 := Tryz.underlying29
  a37 := Tryz.isAgg29
  z37 := Tryz.sizeOf29
  v37 := Tryz.zeroValue29
  t70 := Tryz.underlying59
  a70 := Tryz.isAgg59
  z70 := Tryz.sizeOf59
  v70 := Tryz.zeroValue59
  t72 := Tryz.underlying61
  a72 := Tryz.isAgg61
  z72 := Tryz.sizeOf61
  v72 := Tryz.zeroValue61
  t75 := Tryz.underlying31
  a75 := Tryz.isAgg31
  z75 := Tryz.sizeOf31
  v75 := Tryz.zeroValue31
  t164 := Tryz.underlying130
  a164 := Tryz.isAgg130
  z164 := Tryz.sizeOf130
  v164 := Tryz.zeroValue130 }
theorem Tryz.Builder_X72_240 : Builder.X72 Tryz.prog Tryz.lays240_ren where
  sizeBuilder := by kernel_rfl
  liesBuilder := by kernel_rfl
theorem Tryz.Builder_Extra_167 : Builder.Extra Tryz.prog Tryz.lays167_ren where
  sizeBuilder := by kernel_rfl
  liesBuilder := by kernel_rfl
  t5 := Tryz.underlying5
  a5 := Tryz.isAgg5
  z5 := Tryz.sizeOf5
  v5 := Tryz.zeroValue5
  infoByte := by kernel_rfl
  cellsByte := by kernel_rfl
  sizeByte := by kernel_rfl
  neB5 := by decide
theorem Tryz.Builder_Extra_166 : Builder.Extra Tryz.prog Tryz.lays166_ren where
  sizeBuilder := by kernel_rfl
  liesBuilder := by kernel_rfl
  t5 := Tryz.underlying5
  a5 := Tryz.isAgg5
  z5 := Tryz.sizeOf5
  v5 := Tryz.zeroValue5
  infoByte := by kernel_rfl
  cellsByte := by kernel_rfl
  sizeByte := by kernel_rfl
  neB5 := by decide
open Go.RowKit in
/-- (*strings.Builder).copyCheck (what every writing method calls first): behind it the builder is 'used': 'addr' holds its own address; its bytes are as they were. THE FORM '_k': OVER 'Lib.IsBuilderF' (a builder that 'String()' may have read), AND WITH THE FRAME THAT REACHES ABOVE THE BUILDER: 'Lib.OthersKept': every block that is not b and is no row of uint8's stands as it stood: the iterator of a range among them.' has read.) (LAID: no walk: one application.) -/
theorem Tryz.Builder_copyCheck_k (B b : Nat) (bs : List Value) (w : World) (h : Lib.IsBuilderF 61 5 B b bs w) :
    Calls Tryz.prog 285 #[.pointer (some ⟨b, 0, none⟩)] w fun e w' => e = .returned (.tuple #[]) ∧ (Lib.BuilderAtF 61 5 B b (.pointer (some ⟨b, 0, none⟩)) bs w' ∧ Below B w w' ∧ Lib.OthersKept 5 (some b) w w') := Any.Builder_copyCheck_k Tryz.lays240 Tryz.Builder_X72_240 B b bs w h
open Go.RowKit in
/-- (*strings.Builder).WriteByte: "WriteByte appends the byte c to b's buffer. The returned error is always nil.": UNDER Go's OWN LIMIT: the new length takes at most 2^47 bytes. (LAID: no walk: one application.) -/
theorem Tryz.Builder_WriteByte_k (B b : Nat) (bs : List Value) (c : Int) (w : World) (h : Lib.IsBuilderF 61 5 B b bs w) (hlen : bs.length + 1 ≤ 140737488355328) (hBw : B ≤ w.heap.size) :
    Calls Tryz.prog 283 #[.pointer (some ⟨b, 0, none⟩), .int .u8 c] w fun e w' => e = .returned .nilIface ∧ (Lib.BuilderAtF 61 5 B b (.pointer (some ⟨b, 0, none⟩)) (bs ++ [.int .u8 c]) w' ∧ Below B w w' ∧ Lib.OthersKept 5 (some b) w w') := Any.Builder_WriteByte_k Tryz.lays167 Tryz.Builder_Extra_167 B b bs c w h hlen hBw
open Go.RowKit in
/-- (*strings.Builder).WriteString: "WriteString appends the contents of s to b's buffer. It returns the length of s and a nil error.": UNDER Go's OWN LIMIT: the new length takes at most 2^47 bytes. THE FORM '_k': OVER 'Lib.IsBuilderF' (a builder that 'String()' may have read), AND WITH THE FRAME THAT REACHES ABOVE THE BUILDER: 'Lib.OthersKept': every block that is not b and is no row of uint8's stands as it stood: the iterator of a range among them.' HAS READ, TOO: the bytes go in BEHIND what is frozen, or, where there is no room, all goes over into a new row.) (LAID: no walk: one application.) -/
theorem Tryz.Builder_WriteString_k (B b : Nat) (bs : List Value) (s : ByteArray) (w : World) (h : Lib.IsBuilderF 61 5 B b bs w) (hlen : bs.length + s.size ≤ 140737488355328) (hBw : B ≤ w.heap.size) :
    Calls Tryz.prog 284 #[.pointer (some ⟨b, 0, none⟩), .string s] w fun e w' => e = .returned (.tuple #[.int .i64 s.size, .nilIface]) ∧ (Lib.BuilderAtF 61 5 B b (.pointer (some ⟨b, 0, none⟩)) (bs ++ Lib.strCells s) w' ∧ Below B w w' ∧ Lib.OthersKept 5 (some b) w w') := Any.Builder_WriteString_k Tryz.lays166 Tryz.Builder_Extra_166 B b bs s w h hlen hBw
end Go.Proofs
