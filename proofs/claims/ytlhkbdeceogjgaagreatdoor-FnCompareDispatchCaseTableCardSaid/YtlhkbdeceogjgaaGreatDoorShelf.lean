/-
  DERIVED: THE SHELF's CONTRACTS AT THIS DUMP, IN PLAIN WORDS (tools/lay-plain.mjs out of 'TryzShelf.lean', which tools/lay-shelf.mjs wrote): THE SAME DECLARATIONS UNDER THE SAME NAMES: 'import', 'namespace', 'open', 'def', 'theorem' AND NOTHING ELSE: no command of the shelf's: FOR A HAND-IN. Each laying: the table of numbers ('.._ren') and one theorem, a field a fact of the dump's own or the kernel's comparison; each contract: ONE APPLICATION.
-/
import Derived.Shelf.Small.Bits
import Derived.Shelf.Strconv.Itoa0
import Derived.Shelf.Strconv.Itoa1
import Derived.Shelf.LaysM
import Derived.Shelf.Strconv.Itoa2
import Derived.Shelf.Strconv.Itoa3
import Derived.Shelf.Strconv.ParseIntEmpty
import Derived.Shelf.Strconv.Clone
import Derived.Shelf.Strconv.SyntaxError
import Derived.Shelf.LaysC
import Derived.Shelf.Strconv.ToError
import Derived.Shelf.Strconv.Lower
import Derived.Shelf.Strconv.ParseUint10
import Derived.Shelf.Strconv.ParseUint10Empty
import Derived.Shelf.Strconv.ParseUint10Any
import Derived.Shelf.Strconv.ParseInt10
import Derived.Shelf.Strconv.RangeError
import Derived.Shelf.Strconv.ToErrorRange
import Derived.Shelf.Strconv.ParseUintEmpty
import Derived.Shelf.Strconv.ParseUint10b64
import Derived.Shelf.Strconv.ParseUint10b32
import Derived.Shelf.Strconv.ParseUint10b16
import Derived.Shelf.Strconv.ParseUint10b8
import Derived.Shelf.Strconv.ParseUint10At
import Derived.Shelf.Strconv.ParseInt10At64
import Derived.Shelf.Strconv.ParseInt10At32
import Derived.Shelf.Strconv.ParseInt10At16
import Derived.Shelf.Strconv.ParseInt10At8
import Derived.Shelf.Strconv.ParseInt10All
import Derived.Shelf.Strconv.ParseIntPublic10
import Derived.Shelf.Bits.Mul64
import Derived.Ground.Names2Prog
import Derived.Shelf.Slices.SearchI
import Derived.Test.YtlhkbdeceogjgaaGreatDoorProg
namespace Go.Proofs
open Go.Shelf
def Tryz.laysC174_ren : Go.Shelf.Ren := ⟨fun | 174 => 143 | 247 => 159 | 245 => 141 | 287 => 180 | 279 => 154 | 280 => 155 | 281 => 156 | 282 => 157 | 321 => 218 | 322 => 219 | 316 => 169 | 171 => 171 | 205 => 170 | 243 => 207 | 246 => 242 | 283 => 261 | 284 => 262 | 285 => 263 | 286 => 264 | 129 => 193 | 317 => 291 | 318 => 235 | 319 => 292 | 320 => 174 | 337 => 210 | 338 => 211 | n => n, fun | 9 => 9 | 3 => 3 | 2 => 2 | 75 => 72 | 85 => 143 | 4 => 4 | 167 => 164 | 5 => 5 | 53 => 122 | 175 => 199 | 46 => 78 | 168 => 165 | 37 => 80 | 0 => 0 | 210 => 190 | 21 => 21 | 127 => 235 | 145 => 238 | 143 => 236 | 171 => 79 | 173 => 302 | 212 => 321 | 51 => 177 | 20 => 20 | 213 => 322 | 232 => 280 | 233 => 281 | 80 => 140 | n => n, fun | 15 => 2 | 16 => 3 | 17 => 20 | 18 => 13 | 19 => 14 | n => n⟩
theorem Tryz.laysC174 : Go.Proofs.LaysC.n174 Tryz.prog Tryz.laysC174_ren := {
  mixed := by kernel_rfl
  f129 := Tryz.func193.trans (congrArg some (by kernel_rfl))
  f171 := Tryz.func171.trans (congrArg some (by kernel_rfl))
  f174 := Tryz.func143.trans (congrArg some (by kernel_rfl))
  f205 := Tryz.func170.trans (congrArg some (by kernel_rfl))
  f243 := Tryz.func207.trans (congrArg some (by kernel_rfl))
  f245 := Tryz.func141.trans (congrArg some (by kernel_rfl))
  f246 := Tryz.func242.trans (congrArg some (by kernel_rfl))
  f247 := Tryz.func159.trans (congrArg some (by kernel_rfl))
  f279 := Tryz.func154.trans (congrArg some (by kernel_rfl))
  f280 := Tryz.func155.trans (congrArg some (by kernel_rfl))
  f281 := Tryz.func156.trans (congrArg some (by kernel_rfl))
  f282 := Tryz.func157.trans (congrArg some (by kernel_rfl))
  f283 := Tryz.func261.trans (congrArg some (by kernel_rfl))
  f284 := Tryz.func262.trans (congrArg some (by kernel_rfl))
  f285 := Tryz.func263.trans (congrArg some (by kernel_rfl))
  f286 := Tryz.func264.trans (congrArg some (by kernel_rfl))
  f287 := Tryz.func180.trans (congrArg some (by kernel_rfl))
  f316 := Tryz.func169.trans (congrArg some (by kernel_rfl))
  f317 := Tryz.func291.trans (congrArg some (by kernel_rfl))
  f318 := Tryz.func235.trans (congrArg some (by kernel_rfl))
  f319 := Tryz.func292.trans (congrArg some (by kernel_rfl))
  f320 := Tryz.func174.trans (congrArg some (by kernel_rfl))
  f321 := Tryz.func218.trans (congrArg some (by kernel_rfl))
  f322 := Tryz.func219.trans (congrArg some (by kernel_rfl))
  f337 := Tryz.func210.trans (congrArg some (by kernel_rfl))
  f338 := Tryz.func211.trans (congrArg some (by kernel_rfl))
  t0 := Tryz.underlying0
  a0 := Tryz.isAgg0
  z0 := Tryz.sizeOf0
  v0 := Tryz.zeroValue0
  t2 := Tryz.underlying2
  a2 := Tryz.isAgg2
  z2 := Tryz.sizeOf2
  v2 := Tryz.zeroValue2
  t3 := Tryz.underlying3
  a3 := Tryz.isAgg3
  z3 := Tryz.sizeOf3
  v3 := Tryz.zeroValue3
  t4 := Tryz.underlying4
  a4 := Tryz.isAgg4
  z4 := Tryz.sizeOf4
  v4 := Tryz.zeroValue4
  t5 := Tryz.underlying5
  a5 := Tryz.isAgg5
  z5 := Tryz.sizeOf5
  v5 := Tryz.zeroValue5
  t9 := Tryz.underlying9
  a9 := Tryz.isAgg9
  z9 := Tryz.sizeOf9
  v9 := Tryz.zeroValue9
  t20 := Tryz.underlying20
  a20 := Tryz.isAgg20
  z20 := Tryz.sizeOf20
  v20 := Tryz.zeroValue20
  t21 := Tryz.underlying21
  a21 := Tryz.isAgg21
  z21 := Tryz.sizeOf21
  v21 := Tryz.zeroValue21
  t37 := Tryz.underlying80
  a37 := Tryz.isAgg80
  z37 := Tryz.sizeOf80
  v37 := Tryz.zeroValue80
  t46 := Tryz.underlying78
  a46 := Tryz.isAgg78
  z46 := Tryz.sizeOf78
  v46 := Tryz.zeroValue78
  t51 := Tryz.underlying177
  a51 := Tryz.isAgg177
  z51 := Tryz.sizeOf177
  v51 := Tryz.zeroValue177
  t53 := Tryz.underlying122
  a53 := Tryz.isAgg122
  z53 := Tryz.sizeOf122
  v53 := Tryz.zeroValue122
  t75 := Tryz.underlying72
  a75 := Tryz.isAgg72
  z75 := Tryz.sizeOf72
  v75 := Tryz.zeroValue72
  t85 := Tryz.underlying143
  a85 := Tryz.isAgg143
  z85 := Tryz.sizeOf143
  v85 := Tryz.zeroValue143
  t127 := Tryz.underlying235
  a127 := Tryz.isAgg235
  z127 := Tryz.sizeOf235
  v127 := Tryz.zeroValue235
  t143 := Tryz.underlying236
  a143 := Tryz.isAgg236
  z143 := Tryz.sizeOf236
  v143 := Tryz.zeroValue236
  t145 := Tryz.underlying238
  a145 := Tryz.isAgg238
  z145 := Tryz.sizeOf238
  v145 := Tryz.zeroValue238
  t167 := Tryz.underlying164
  a167 := Tryz.isAgg164
  z167 := Tryz.sizeOf164
  v167 := Tryz.zeroValue164
  t168 := Tryz.underlying165
  a168 := Tryz.isAgg165
  z168 := Tryz.sizeOf165
  v168 := Tryz.zeroValue165
  t171 := Tryz.underlying79
  a171 := Tryz.isAgg79
  z171 := Tryz.sizeOf79
  v171 := Tryz.zeroValue79
  t173 := Tryz.underlying302
  a173 := Tryz.isAgg302
  z173 := Tryz.sizeOf302
  v173 := Tryz.zeroValue302
  t175 := Tryz.underlying199
  a175 := Tryz.isAgg199
  z175 := Tryz.sizeOf199
  v175 := Tryz.zeroValue199
  t210 := Tryz.underlying190
  a210 := Tryz.isAgg190
  z210 := Tryz.sizeOf190
  v210 := Tryz.zeroValue190
  t212 := Tryz.underlying321
  a212 := Tryz.isAgg321
  z212 := Tryz.sizeOf321
  v212 := Tryz.zeroValue321
  t213 := Tryz.underlying322
  a213 := Tryz.isAgg322
  z213 := Tryz.sizeOf322
  t232 := Tryz.underlying280
  a232 := Tryz.isAgg280
  z232 := Tryz.sizeOf280
  v232 := Tryz.zeroValue280
  t233 := Tryz.underlying281
  a233 := Tryz.isAgg281
  z233 := Tryz.sizeOf281
  v233 := Tryz.zeroValue281
  g15 := by kernel_rfl
  g16 := by kernel_rfl
  g17 := by kernel_rfl
  g18 := by kernel_rfl
  g19 := by kernel_rfl
  t80 := Tryz.underlying140
  a80 := Tryz.isAgg140
  z80 := Tryz.sizeOf140
  v80 := Tryz.zeroValue140
  i0 := by kernel_rfl
  i2 := by kernel_rfl
  i3 := by kernel_rfl
  i4 := by kernel_rfl
  i5 := by kernel_rfl
  i9 := by kernel_rfl
  i20 := by kernel_rfl
  i21 := by kernel_rfl
  i37 := by kernel_rfl
  i46 := by kernel_rfl
  i51 := by kernel_rfl
  i53 := by kernel_rfl
  i75 := by kernel_rfl
  i80 := by kernel_rfl
  i85 := by kernel_rfl
  i127 := by kernel_rfl
  i143 := by kernel_rfl
  i145 := by kernel_rfl
  i167 := by kernel_rfl
  i168 := by kernel_rfl
  i171 := by kernel_rfl
  i173 := by kernel_rfl
  i175 := by kernel_rfl
  i210 := by kernel_rfl
  i212 := by kernel_rfl
  i232 := by kernel_rfl
  i233 := by kernel_rfl
  m15 := by kernel_rfl
  m16 := by kernel_rfl
  m17 := by kernel_rfl
  m18 := by kernel_rfl
  m19 := by kernel_rfl
  c0 := by kernel_rfl
  c2 := by kernel_rfl
  c3 := by kernel_rfl
  c4 := by kernel_rfl
  c5 := by kernel_rfl
  c9 := by kernel_rfl
  c20 := by kernel_rfl
  c21 := by kernel_rfl
  c37 := by kernel_rfl
  c46 := by kernel_rfl
  c51 := by kernel_rfl
  c53 := by kernel_rfl
  c75 := by kernel_rfl
  c80 := by kernel_rfl
  c85 := by kernel_rfl
  c127 := by kernel_rfl
  c143 := by kernel_rfl
  c145 := by kernel_rfl
  c167 := by kernel_rfl
  c168 := by kernel_rfl
  c171 := by kernel_rfl
  c173 := by kernel_rfl
  c175 := by kernel_rfl
  c210 := by kernel_rfl
  c212 := by kernel_rfl
  c213 := by kernel_rfl
  c232 := by kernel_rfl
  c233 := by kernel_rfl }
open Go.RowKit in
/-- strconv.ParseInt(s, 10, 64), AT EVERY STRING THAT SPELLS AN int64 ('Lib.parseIntB 64 s.data.toList = .ok v'): v, AND NO ERROR. (LAID: no walk: one application.) -/
theorem Tryz.strconv_ParseInt_10_at64_ok (s : ByteArray) (hmax : s.size ≤ 9223372036854775806) (v : Int) (h : Lib.parseIntB 64 s.data.toList = .ok v) (w : World) :
    Calls Tryz.prog 143 #[.string s, .int .i64 10, .int .i64 64] w fun e w' => e = .returned (.tuple #[.int .i64 v, .nilIface]) ∧ (w' = w ∨ ∃ t, w' = Lib.bytesWorld w 5 t) := Any.strconv_ParseInt_10_at64_ok Tryz.laysC174 s hmax v h w
end Go.Proofs
