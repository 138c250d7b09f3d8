/-
  DERIVED: THE SHELF's CONTRACTS AT THIS DUMP, IN PLAIN WORDS (tools/lay-plain.mjs out of 'TryzShelf.lean', which tools/lay-shelf.mjs wrote): THE SAME DECLARATIONS UNDER THE SAME NAMES: 'import', 'namespace', 'open', 'def', 'theorem' AND NOTHING ELSE: no command of the shelf's: FOR A HAND-IN. Each laying: the table of numbers ('.._ren') and one theorem, a field a fact of the dump's own or the kernel's comparison; each contract: ONE APPLICATION.
-/
import Derived.Shelf.Strings.Builder1
import Derived.Shelf.Small.Utf8
import Derived.Shelf.Small.Bits
import Derived.Shelf.Strings.BuilderF
import Derived.Shelf.Strings.BuilderK
import Derived.Shelf.Strconv.Itoa0
import Derived.Shelf.Strconv.Itoa1
import Derived.Shelf.LaysM
import Derived.Shelf.Strconv.Itoa2
import Derived.Shelf.Bytes.Len
import Derived.Shelf.Bytes.TryGrow
import Derived.Shelf.Bytes.GrowSliceCatch
import Derived.Shelf.Bytes.GrowSlice
import Derived.Shelf.Bytes.Bytes
import Derived.Shelf.Bytes.GrowRow0Kept
import Derived.Shelf.Bytes.GrowRowKept
import Derived.Shelf.Bytes.GrowNilKept
import Derived.Shelf.Bytes.GrowKept
import Derived.Shelf.Bytes.WriteByteKept
import Derived.Shelf.Bytes.WriteStringKept
import Derived.Shelf.Bytes.ResetKept
import Derived.Shelf.Bytes.WriteKept
import Derived.Shelf.Bytes.BufferK
import Derived.Ground.GgsProg
import Derived.Shelf.GgSortFunc.Insertion
import Derived.Shelf.GgSortFunc.Small
import Derived.Shelf.Bytes.GrowRow0Own
import Derived.Shelf.GgSortFunc.InsertionK
import Derived.Shelf.Bytes.GrowRowOwn
import Derived.Shelf.GgSortFunc.SmallK
import Derived.Shelf.Bytes.GrowNilOwn
import Derived.Shelf.GgSortFunc.Tiny
import Derived.Shelf.Bytes.GrowOwn
import Derived.Shelf.GgSortFunc.Compose
import Derived.Shelf.Bytes.WriteAny
import Derived.Shelf.GgSortFunc.LotD
import Derived.Shelf.Unicode.Decode
import Derived.Shelf.Bits.Mul64
import Derived.Shelf.Unicode.DecodeSlow
import Derived.Shelf.Unicode.DecodeAny
import Derived.Shelf.SlSortFunc.Xorshift
import Derived.Shelf.SlSortFuncK.ComposeK
import Derived.Shelf.SlSortFuncK.SiftDownK
import Derived.Shelf.SlSortFuncK.HeapSortK
import Derived.Shelf.SlSortFuncK.PartialInsertionK
import Derived.Shelf.SlSortFuncK.LotDK
import Derived.Shelf.SlSortFuncK.PivotK
import Derived.Shelf.SlSortFuncK.PartitionK
import Derived.Shelf.SlSortFuncK.PdqK
import Derived.Shelf.SlSortFuncK.WholeK
import Derived.Test.YtdkccihoecpcaaaGreatFmtProg
namespace Go.Proofs
open Go.Shelf
def Tryz.laysGg6_ren : Go.Shelf.Ren := ⟨fun | 6 => 58 | 10 => 78 | 11 => 79 | 12 => 80 | 13 => 81 | 14 => 82 | 24 => 111 | 25 => 112 | 26 => 113 | 27 => 114 | 28 => 115 | 29 => 116 | 30 => 117 | 31 => 118 | 32 => 119 | 33 => 120 | 34 => 149 | 35 => 150 | 36 => 151 | 37 => 152 | 38 => 153 | 39 => 199 | n => n, fun | 20 => 20 | 26 => 111 | 35 => 133 | 0 => 0 | 37 => 135 | 3 => 3 | 41 => 69 | 44 => 139 | 49 => 149 | 51 => 54 | 4 => 4 | 54 => 173 | 53 => 172 | 58 => 177 | 5 => 5 | 9 => 9 | 60 => 213 | 64 => 217 | 66 => 248 | 67 => 191 | 17 => 17 | 32 => 130 | 33 => 131 | 82 => 309 | 12 => 12 | 75 => 303 | 76 => 304 | 77 => 305 | 78 => 92 | 79 => 306 | 80 => 307 | n => n, fun | n => n⟩
theorem Tryz.laysGg6 : Go.Proofs.LaysGg.n6 Tryz.prog Tryz.laysGg6_ren := {
  mixed := by kernel_rfl
  f6 := Tryz.func58.trans (congrArg some (by kernel_rfl))
  f10 := Tryz.func78.trans (congrArg some (by kernel_rfl))
  f11 := Tryz.func79.trans (congrArg some (by kernel_rfl))
  f12 := Tryz.func80.trans (congrArg some (by kernel_rfl))
  f13 := Tryz.func81.trans (congrArg some (by kernel_rfl))
  f14 := Tryz.func82.trans (congrArg some (by kernel_rfl))
  f24 := Tryz.func111.trans (congrArg some (by kernel_rfl))
  f25 := Tryz.func112.trans (congrArg some (by kernel_rfl))
  f26 := Tryz.func113.trans (congrArg some (by kernel_rfl))
  f27 := Tryz.func114.trans (congrArg some (by kernel_rfl))
  f28 := Tryz.func115.trans (congrArg some (by kernel_rfl))
  f29 := Tryz.func116.trans (congrArg some (by kernel_rfl))
  f30 := Tryz.func117.trans (congrArg some (by kernel_rfl))
  f31 := Tryz.func118.trans (congrArg some (by kernel_rfl))
  f32 := Tryz.func119.trans (congrArg some (by kernel_rfl))
  f33 := Tryz.func120.trans (congrArg some (by kernel_rfl))
  f34 := Tryz.func149.trans (congrArg some (by kernel_rfl))
  f35 := Tryz.func150.trans (congrArg some (by kernel_rfl))
  f36 := Tryz.func151.trans (congrArg some (by kernel_rfl))
  f37 := Tryz.func152.trans (congrArg some (by kernel_rfl))
  f38 := Tryz.func153.trans (congrArg some (by kernel_rfl))
  f39 := Tryz.func199.trans (congrArg some (by kernel_rfl))
  t0 := Tryz.underlying0
  a0 := Tryz.isAgg0
  z0 := Tryz.sizeOf0
  v0 := Tryz.zeroValue0
  i0 := by kernel_rfl
  t3 := Tryz.underlying3
  a3 := Tryz.isAgg3
  z3 := Tryz.sizeOf3
  v3 := Tryz.zeroValue3
  i3 := by kernel_rfl
  t4 := Tryz.underlying4
  a4 := Tryz.isAgg4
  z4 := Tryz.sizeOf4
  v4 := Tryz.zeroValue4
  i4 := by kernel_rfl
  t5 := Tryz.underlying5
  a5 := Tryz.isAgg5
  z5 := Tryz.sizeOf5
  v5 := Tryz.zeroValue5
  i5 := by kernel_rfl
  t9 := Tryz.underlying9
  a9 := Tryz.isAgg9
  z9 := Tryz.sizeOf9
  v9 := Tryz.zeroValue9
  i9 := by kernel_rfl
  t12 := Tryz.underlying12
  a12 := Tryz.isAgg12
  z12 := Tryz.sizeOf12
  v12 := Tryz.zeroValue12
  i12 := by kernel_rfl
  t17 := Tryz.underlying17
  a17 := Tryz.isAgg17
  z17 := Tryz.sizeOf17
  v17 := Tryz.zeroValue17
  i17 := by kernel_rfl
  t20 := Tryz.underlying20
  a20 := Tryz.isAgg20
  z20 := Tryz.sizeOf20
  v20 := Tryz.zeroValue20
  i20 := by kernel_rfl
  t26 := Tryz.underlying111
  a26 := Tryz.isAgg111
  z26 := Tryz.sizeOf111
  v26 := Tryz.zeroValue111
  i26 := by kernel_rfl
  t32 := Tryz.underlying130
  a32 := Tryz.isAgg130
  z32 := Tryz.sizeOf130
  v32 := Tryz.zeroValue130
  i32 := by kernel_rfl
  t33 := Tryz.underlying131
  a33 := Tryz.isAgg131
  z33 := Tryz.sizeOf131
  v33 := Tryz.zeroValue131
  i33 := by kernel_rfl
  t35 := Tryz.underlying133
  a35 := Tryz.isAgg133
  z35 := Tryz.sizeOf133
  v35 := Tryz.zeroValue133
  i35 := by kernel_rfl
  t37 := Tryz.underlying135
  a37 := Tryz.isAgg135
  z37 := Tryz.sizeOf135
  v37 := Tryz.zeroValue135
  i37 := by kernel_rfl
  t41 := Tryz.underlying69
  a41 := Tryz.isAgg69
  z41 := Tryz.sizeOf69
  v41 := Tryz.zeroValue69
  i41 := by kernel_rfl
  t44 := Tryz.underlying139
  a44 := Tryz.isAgg139
  z44 := Tryz.sizeOf139
  v44 := Tryz.zeroValue139
  i44 := by kernel_rfl
  t49 := Tryz.underlying149
  a49 := Tryz.isAgg149
  z49 := Tryz.sizeOf149
  v49 := Tryz.zeroValue149
  i49 := by kernel_rfl
  t51 := Tryz.underlying54
  a51 := Tryz.isAgg54
  z51 := Tryz.sizeOf54
  v51 := Tryz.zeroValue54
  i51 := by kernel_rfl
  t53 := Tryz.underlying172
  a53 := Tryz.isAgg172
  z53 := Tryz.sizeOf172
  v53 := Tryz.zeroValue172
  i53 := by kernel_rfl
  t54 := Tryz.underlying173
  a54 := Tryz.isAgg173
  z54 := Tryz.sizeOf173
  v54 := Tryz.zeroValue173
  i54 := by kernel_rfl
  t58 := Tryz.underlying177
  a58 := Tryz.isAgg177
  z58 := Tryz.sizeOf177
  v58 := Tryz.zeroValue177
  i58 := by kernel_rfl
  t60 := Tryz.underlying213
  a60 := Tryz.isAgg213
  z60 := Tryz.sizeOf213
  v60 := Tryz.zeroValue213
  i60 := by kernel_rfl
  t64 := Tryz.underlying217
  a64 := Tryz.isAgg217
  z64 := Tryz.sizeOf217
  v64 := Tryz.zeroValue217
  i64 := by kernel_rfl
  t66 := Tryz.underlying248
  a66 := Tryz.isAgg248
  z66 := Tryz.sizeOf248
  v66 := Tryz.zeroValue248
  i66 := by kernel_rfl
  t67 := Tryz.underlying191
  a67 := Tryz.isAgg191
  z67 := Tryz.sizeOf191
  v67 := Tryz.zeroValue191
  i67 := by kernel_rfl
  t75 := Tryz.underlying303
  a75 := Tryz.isAgg303
  z75 := Tryz.sizeOf303
  v75 := Tryz.zeroValue303
  i75 := by kernel_rfl
  t76 := Tryz.underlying304
  a76 := Tryz.isAgg304
  z76 := Tryz.sizeOf304
  v76 := Tryz.zeroValue304
  i76 := by kernel_rfl
  t77 := Tryz.underlying305
  a77 := Tryz.isAgg305
  z77 := Tryz.sizeOf305
  v77 := Tryz.zeroValue305
  i77 := by kernel_rfl
  t78 := Tryz.underlying92
  a78 := Tryz.isAgg92
  z78 := Tryz.sizeOf92
  v78 := Tryz.zeroValue92
  i78 := by kernel_rfl
  t79 := Tryz.underlying306
  a79 := Tryz.isAgg306
  z79 := Tryz.sizeOf306
  v79 := Tryz.zeroValue306
  i79 := by kernel_rfl
  t80 := Tryz.underlying307
  a80 := Tryz.isAgg307
  z80 := Tryz.sizeOf307
  v80 := Tryz.zeroValue307
  i80 := by kernel_rfl
  t82 := Tryz.underlying309
  a82 := Tryz.isAgg309
  z82 := Tryz.sizeOf309
  v82 := Tryz.zeroValue309
  i82 := by kernel_rfl }
end Go.Proofs
