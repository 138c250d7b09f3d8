/-
  DERIVED: THE SHELF's CONTRACTS AT THIS DUMP, IN PLAIN WORDS (tools/lay-plain.mjs out of 'TryzShelf.lean', which tools/lay-shelf.mjs wrote): THE SAME DECLARATIONS UNDER THE SAME NAMES: 'import', 'namespace', 'open', 'def', 'theorem' AND NOTHING ELSE: no command of the shelf's: FOR A HAND-IN. Each laying: the table of numbers ('.._ren') and one theorem, a field a fact of the dump's own or the kernel's comparison; each contract: ONE APPLICATION.
-/
import Derived.Shelf.Small.Utf8
import Derived.Shelf.Strconv.Itoa0
import Derived.Shelf.Strconv.Itoa1
import Derived.Shelf.LaysM
import Derived.Shelf.Strconv.Itoa2
import Derived.Shelf.Bytes.Len
import Derived.Shelf.Bytes.TryGrow
import Derived.Shelf.Bytes.GrowSliceCatch
import Derived.Shelf.Bytes.GrowSlice
import Derived.Shelf.Bytes.Bytes
import Derived.Shelf.Bytes.GrowRow0Kept
import Derived.Shelf.Bytes.GrowRowKept
import Derived.Shelf.Bytes.GrowNilKept
import Derived.Shelf.Bytes.GrowKept
import Derived.Shelf.Bytes.WriteByteKept
import Derived.Shelf.Bytes.WriteStringKept
import Derived.Shelf.Bytes.ResetKept
import Derived.Shelf.Bytes.WriteKept
import Derived.Shelf.Bytes.BufferK
import Derived.Shelf.Bytes.GrowRow0Own
import Derived.Shelf.Bytes.GrowRowOwn
import Derived.Shelf.Bytes.GrowNilOwn
import Derived.Shelf.Bytes.GrowOwn
import Derived.Shelf.Bytes.WriteAny
import Derived.Shelf.Bits.Mul64
import Derived.Shelf.Unicode.DecodeSlow
import Derived.Shelf.Unicode.DecodeAny
import Derived.Test.YtdkccihoecpcaaaGreatFmtProg
namespace Go.Proofs
open Go.Shelf
def Tryz.laysM183_ren : Go.Shelf.Ren := ⟨fun | 183 => 40 | n => n, fun | 130 => 77 | 37 => 29 | 0 => 0 | 93 => 76 | 3 => 3 | 5 => 5 | 91 => 74 | n => n, fun | n => n⟩
theorem Tryz.laysM183 : Go.Proofs.LaysM.n183 Tryz.prog Tryz.laysM183_ren := {
  mixed := by kernel_rfl
  f183 := Tryz.func40.trans (congrArg some (by kernel_rfl))
  t0 := Tryz.underlying0
  a0 := Tryz.isAgg0
  z0 := Tryz.sizeOf0
  v0 := Tryz.zeroValue0
  t3 := Tryz.underlying3
  a3 := Tryz.isAgg3
  z3 := Tryz.sizeOf3
  v3 := Tryz.zeroValue3
  t37 := Tryz.underlying29
  a37 := Tryz.isAgg29
  z37 := Tryz.sizeOf29
  v37 := Tryz.zeroValue29
  t93 := Tryz.underlying76
  a93 := Tryz.isAgg76
  z93 := Tryz.sizeOf76
  v93 := Tryz.zeroValue76
  t130 := Tryz.underlying77
  a130 := Tryz.isAgg77
  z130 := Tryz.sizeOf77
  v130 := Tryz.zeroValue77
  t5 := Tryz.underlying5
  a5 := Tryz.isAgg5
  z5 := Tryz.sizeOf5
  v5 := Tryz.zeroValue5
  t91 := Tryz.underlying74
  a91 := Tryz.isAgg74
  z91 := Tryz.sizeOf74
  v91 := Tryz.zeroValue74
  i0 := by kernel_rfl
  i3 := by kernel_rfl
  i5 := by kernel_rfl
  i37 := by kernel_rfl
  i91 := by kernel_rfl
  i93 := by kernel_rfl
  i130 := by kernel_rfl }
open Go.RowKit in
/-- (*bytes.Buffer).Bytes: "Bytes returns a slice of length b.Len() holding the unread portion of the buffer. .. The slice aliases the buffer content at least until the next buffer modification": A SLICE THAT OWNS THE CELLS bs ('World.ownsRow': nil where nothing was ever written). The world is as it was but for the count of draws. (LAID: no walk: one application.) -/
theorem Tryz.Buffer_Bytes (B b : Nat) (bs : List Value) (w : World) (h : Lib.IsBuffer 76 5 B b bs w) :
    Calls Tryz.prog 40 #[.pointer (some ⟨b, 0, none⟩)] w fun e w' => ∃ v, e = .returned v ∧ w'.ownsRow B 5 1 v bs.length bs ∧ ∃ n, w' = w.drewN n := Any.Buffer_Bytes Tryz.laysM183 B b bs w h
def Tryz.laysM179_ren : Go.Shelf.Ren := ⟨fun | 179 => 290 | 251 => 292 | 252 => 293 | 181 => 294 | 184 => 287 | 290 => 295 | 324 => 296 | n => n, fun | 130 => 77 | 5 => 5 | 75 => 31 | 0 => 0 | 93 => 76 | 91 => 74 | 3 => 3 | 131 => 177 | 4 => 4 | 37 => 29 | 20 => 20 | 80 => 53 | 9 => 9 | n => n, fun | 14 => 14 | n => n⟩
theorem Tryz.laysM179 : Go.Proofs.LaysM.n179 Tryz.prog Tryz.laysM179_ren := {
  mixed := by kernel_rfl
  f179 := Tryz.func290.trans (congrArg some (by kernel_rfl))
  f181 := Tryz.func294.trans (congrArg some (by kernel_rfl))
  f184 := Tryz.func287.trans (congrArg some (by kernel_rfl))
  f251 := Tryz.func292.trans (congrArg some (by kernel_rfl))
  f252 := Tryz.func293.trans (congrArg some (by kernel_rfl))
  f290 := Tryz.func295.trans (congrArg some (by kernel_rfl))
  f324 := Tryz.func296.trans (congrArg some (by kernel_rfl))
  t0 := Tryz.underlying0
  a0 := Tryz.isAgg0
  z0 := Tryz.sizeOf0
  v0 := Tryz.zeroValue0
  t3 := Tryz.underlying3
  a3 := Tryz.isAgg3
  z3 := Tryz.sizeOf3
  v3 := Tryz.zeroValue3
  t4 := Tryz.underlying4
  a4 := Tryz.isAgg4
  z4 := Tryz.sizeOf4
  v4 := Tryz.zeroValue4
  t5 := Tryz.underlying5
  a5 := Tryz.isAgg5
  z5 := Tryz.sizeOf5
  v5 := Tryz.zeroValue5
  t20 := Tryz.underlying20
  a20 := Tryz.isAgg20
  z20 := Tryz.sizeOf20
  v20 := Tryz.zeroValue20
  t37 := Tryz.underlying29
  a37 := Tryz.isAgg29
  z37 := Tryz.sizeOf29
  v37 := Tryz.zeroValue29
  t75 := Tryz.underlying31
  a75 := Tryz.isAgg31
  z75 := Tryz.sizeOf31
  v75 := Tryz.zeroValue31
  t91 := Tryz.underlying74
  a91 := Tryz.isAgg74
  z91 := Tryz.sizeOf74
  v91 := Tryz.zeroValue74
  t93 := Tryz.underlying76
  a93 := Tryz.isAgg76
  z93 := Tryz.sizeOf76
  v93 := Tryz.zeroValue76
  t130 := Tryz.underlying77
  a130 := Tryz.isAgg77
  z130 := Tryz.sizeOf77
  v130 := Tryz.zeroValue77
  t131 := Tryz.underlying177
  a131 := Tryz.isAgg177
  z131 := Tryz.sizeOf177
  v131 := Tryz.zeroValue177
  g14 := by kernel_rfl
  t9 := Tryz.underlying9
  a9 := Tryz.isAgg9
  z9 := Tryz.sizeOf9
  v9 := Tryz.zeroValue9
  t80 := Tryz.underlying53
  a80 := Tryz.isAgg53
  z80 := Tryz.sizeOf53
  v80 := Tryz.zeroValue53
  i0 := by kernel_rfl
  i3 := by kernel_rfl
  i4 := by kernel_rfl
  i5 := by kernel_rfl
  i9 := by kernel_rfl
  i20 := by kernel_rfl
  i37 := by kernel_rfl
  i75 := by kernel_rfl
  i80 := by kernel_rfl
  i91 := by kernel_rfl
  i93 := by kernel_rfl
  i130 := by kernel_rfl
  i131 := by kernel_rfl
  m14 := by kernel_rfl }
def Tryz.laysM178_ren : Go.Shelf.Ren := ⟨fun | 178 => 291 | 251 => 292 | 252 => 293 | 181 => 294 | 184 => 287 | 290 => 295 | 324 => 296 | n => n, fun | 130 => 77 | 9 => 9 | 3 => 3 | 75 => 31 | 0 => 0 | 93 => 76 | 91 => 74 | 131 => 177 | 4 => 4 | 37 => 29 | 20 => 20 | 80 => 53 | 5 => 5 | n => n, fun | 14 => 14 | n => n⟩
theorem Tryz.laysM178 : Go.Proofs.LaysM.n178 Tryz.prog Tryz.laysM178_ren := {
  mixed := by kernel_rfl
  f178 := Tryz.func291.trans (congrArg some (by kernel_rfl))
  f181 := Tryz.func294.trans (congrArg some (by kernel_rfl))
  f184 := Tryz.func287.trans (congrArg some (by kernel_rfl))
  f251 := Tryz.func292.trans (congrArg some (by kernel_rfl))
  f252 := Tryz.func293.trans (congrArg some (by kernel_rfl))
  f290 := Tryz.func295.trans (congrArg some (by kernel_rfl))
  f324 := Tryz.func296.trans (congrArg some (by kernel_rfl))
  t0 := Tryz.underlying0
  a0 := Tryz.isAgg0
  z0 := Tryz.sizeOf0
  v0 := Tryz.zeroValue0
  t3 := Tryz.underlying3
  a3 := Tryz.isAgg3
  z3 := Tryz.sizeOf3
  v3 := Tryz.zeroValue3
  t4 := Tryz.underlying4
  a4 := Tryz.isAgg4
  z4 := Tryz.sizeOf4
  v4 := Tryz.zeroValue4
  t9 := Tryz.underlying9
  a9 := Tryz.isAgg9
  z9 := Tryz.sizeOf9
  v9 := Tryz.zeroValue9
  t20 := Tryz.underlying20
  a20 := Tryz.isAgg20
  z20 := Tryz.sizeOf20
  v20 := Tryz.zeroValue20
  t37 := Tryz.underlying29
  a37 := Tryz.isAgg29
  z37 := Tryz.sizeOf29
  v37 := Tryz.zeroValue29
  t75 := Tryz.underlying31
  a75 := Tryz.isAgg31
  z75 := Tryz.sizeOf31
  v75 := Tryz.zeroValue31
  t91 := Tryz.underlying74
  a91 := Tryz.isAgg74
  z91 := Tryz.sizeOf74
  v91 := Tryz.zeroValue74
  t93 := Tryz.underlying76
  a93 := Tryz.isAgg76
  z93 := Tryz.sizeOf76
  v93 := Tryz.zeroValue76
  t130 := Tryz.underlying77
  a130 := Tryz.isAgg77
  z130 := Tryz.sizeOf77
  v130 := Tryz.zeroValue77
  t131 := Tryz.underlying177
  a131 := Tryz.isAgg177
  z131 := Tryz.sizeOf177
  v131 := Tryz.zeroValue177
  g14 := by kernel_rfl
  t5 := Tryz.underlying5
  a5 := Tryz.isAgg5
  z5 := Tryz.sizeOf5
  v5 := Tryz.zeroValue5
  t80 := Tryz.underlying53
  a80 := Tryz.isAgg53
  z80 := Tryz.sizeOf53
  v80 := Tryz.zeroValue53
  i0 := by kernel_rfl
  i3 := by kernel_rfl
  i4 := by kernel_rfl
  i5 := by kernel_rfl
  i9 := by kernel_rfl
  i20 := by kernel_rfl
  i37 := by kernel_rfl
  i75 := by kernel_rfl
  i80 := by kernel_rfl
  i91 := by kernel_rfl
  i93 := by kernel_rfl
  i130 := by kernel_rfl
  i131 := by kernel_rfl
  m14 := by kernel_rfl }
def Tryz.laysM180_ren : Go.Shelf.Ren := ⟨fun | 180 => 289 | 251 => 292 | 252 => 293 | 181 => 294 | 184 => 287 | 290 => 295 | 324 => 296 | n => n, fun | 130 => 77 | 37 => 29 | 3 => 3 | 75 => 31 | 0 => 0 | 93 => 76 | 91 => 74 | 131 => 177 | 4 => 4 | 20 => 20 | 5 => 5 | 80 => 53 | 9 => 9 | n => n, fun | 14 => 14 | n => n⟩
theorem Tryz.laysM180 : Go.Proofs.LaysM.n180 Tryz.prog Tryz.laysM180_ren := {
  mixed := by kernel_rfl
  f180 := Tryz.func289.trans (congrArg some (by kernel_rfl))
  f181 := Tryz.func294.trans (congrArg some (by kernel_rfl))
  f184 := Tryz.func287.trans (congrArg some (by kernel_rfl))
  f251 := Tryz.func292.trans (congrArg some (by kernel_rfl))
  f252 := Tryz.func293.trans (congrArg some (by kernel_rfl))
  f290 := Tryz.func295.trans (congrArg some (by kernel_rfl))
  f324 := Tryz.func296.trans (congrArg some (by kernel_rfl))
  t0 := Tryz.underlying0
  a0 := Tryz.isAgg0
  z0 := Tryz.sizeOf0
  v0 := Tryz.zeroValue0
  t3 := Tryz.underlying3
  a3 := Tryz.isAgg3
  z3 := Tryz.sizeOf3
  v3 := Tryz.zeroValue3
  t4 := Tryz.underlying4
  a4 := Tryz.isAgg4
  z4 := Tryz.sizeOf4
  v4 := Tryz.zeroValue4
  t20 := Tryz.underlying20
  a20 := Tryz.isAgg20
  z20 := Tryz.sizeOf20
  v20 := Tryz.zeroValue20
  t37 := Tryz.underlying29
  a37 := Tryz.isAgg29
  z37 := Tryz.sizeOf29
  v37 := Tryz.zeroValue29
  t75 := Tryz.underlying31
  a75 := Tryz.isAgg31
  z75 := Tryz.sizeOf31
  v75 := Tryz.zeroValue31
  t91 := Tryz.underlying74
  a91 := Tryz.isAgg74
  z91 := Tryz.sizeOf74
  v91 := Tryz.zeroValue74
  t93 := Tryz.underlying76
  a93 := Tryz.isAgg76
  z93 := Tryz.sizeOf76
  v93 := Tryz.zeroValue76
  t130 := Tryz.underlying77
  a130 := Tryz.isAgg77
  z130 := Tryz.sizeOf77
  v130 := Tryz.zeroValue77
  t131 := Tryz.underlying177
  a131 := Tryz.isAgg177
  z131 := Tryz.sizeOf177
  v131 := Tryz.zeroValue177
  g14 := by kernel_rfl
  t5 := Tryz.underlying5
  a5 := Tryz.isAgg5
  z5 := Tryz.sizeOf5
  v5 := Tryz.zeroValue5
  t9 := Tryz.underlying9
  a9 := Tryz.isAgg9
  z9 := Tryz.sizeOf9
  v9 := Tryz.zeroValue9
  t80 := Tryz.underlying53
  a80 := Tryz.isAgg53
  z80 := Tryz.sizeOf53
  v80 := Tryz.zeroValue53
  i0 := by kernel_rfl
  i3 := by kernel_rfl
  i4 := by kernel_rfl
  i5 := by kernel_rfl
  i9 := by kernel_rfl
  i20 := by kernel_rfl
  i37 := by kernel_rfl
  i75 := by kernel_rfl
  i80 := by kernel_rfl
  i91 := by kernel_rfl
  i93 := by kernel_rfl
  i130 := by kernel_rfl
  i131 := by kernel_rfl
  m14 := by kernel_rfl }
open Go.RowKit in
theorem Tryz.Buffer_WriteByte_k (B b : Nat) (bs : List Value) (c : Int) (w : World) (h : Lib.IsBuffer 76 5 B b bs w) (hBw : B ≤ w.heap.size) (h1 : ∀ v ∈ bs, v.oneCell' = true) (hlim : bs.length + 1 ≤ 140737488355328) :
    Calls Tryz.prog 290 #[.pointer (some ⟨b, 0, none⟩), .int .u8 c] w fun e w' => e = .returned .nilIface ∧ Lib.IsBuffer 76 5 B b (bs ++ [.int .u8 c]) w' ∧ Below B w w' ∧ Lib.OthersKept 5 (some b) w w' := Any.Buffer_WriteByte_k Tryz.laysM179 B b bs c w h hBw h1 hlim
open Go.RowKit in
theorem Tryz.Buffer_WriteString_k (B b : Nat) (bs : List Value) (s : ByteArray) (w : World) (h : Lib.IsBuffer 76 5 B b bs w) (hBw : B ≤ w.heap.size) (h1 : ∀ v ∈ bs, v.oneCell' = true) (hlim : bs.length + s.size ≤ 140737488355328) :
    Calls Tryz.prog 291 #[.pointer (some ⟨b, 0, none⟩), .string s] w fun e w' => e = .returned (.tuple #[.int .i64 s.size, .nilIface]) ∧ Lib.IsBuffer 76 5 B b (bs ++ Lib.byteCells s.data.toList) w' ∧ Below B w w' ∧ Lib.OthersKept 5 (some b) w w' := Any.Buffer_WriteString_k Tryz.laysM178 B b bs s w h hBw h1 hlim
open Go.RowKit in
/-- (*bytes.Buffer).Write: "Write appends the contents of p to the buffer, growing the buffer as needed. The return value n is the length of p; err is always nil." (LAID: no walk: one application.) -/
theorem Tryz.Buffer_Write_any (B b : Nat) (bs cs : List Value) (a : Addr) (n c : Nat) (w : World) (h : Lib.IsBuffer 76 5 B b bs w) (hBw : B ≤ w.heap.size) (h1 : ∀ v ∈ bs, v.oneCell' = true) (hn : cs.length = n) (hab : a.block ≠ b) (hsrc : ∀ j v, cs[j]? = some v → w.cell? (a.add j) = some v) (h1c : ∀ v ∈ cs, v.oneCell' = true) (hlim : bs.length + n ≤ 140737488355328) :
    Calls Tryz.prog 289 #[.pointer (some ⟨b, 0, none⟩), .slice (some a) n c] w fun e w' => e = .returned (.tuple #[.int .i64 n, .nilIface]) ∧ Lib.IsBuffer 76 5 B b (bs ++ cs) w' ∧ Below B w w' ∧ Lib.OthersKept 5 (some b) w w' := Any.Buffer_Write_any Tryz.laysM180 B b bs cs a n c w h hBw h1 hn hab hsrc h1c hlim
end Go.Proofs
