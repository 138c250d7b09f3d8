/- The limited writer: its writes, with room and without. Conditions: none. -/
import Derived.Test.YtdkccihoecpcaaaGreatFmtPrev
import Derived.Test.YtdkccihoecpcaaaGreatFmtFr
import Derived.Deep.RegionWith
namespace Go.Proofs.YtdkccihoecpcaaaGreatFmt
open Go.RowKit Go
/-- What the writer panics with. -/
abbrev PVL : Value := .iface 315 (.agg #[])
/-- Block lb is a limited writer that is full; it holds l. -/
structure LimD (w : World) (lb bb : Nat) (l : List UInt8) : Prop where
  head : w.heap[lb]? = some (.cells #[.slice (some ⟨bb, 0, none⟩) 32 32, .int .i64 32] 114 (0, 0))
  row : w.heap[bb]? = some (.cells (limRow l) 5 (0, 0))
  ne : lb ≠ bb
  len : l.length = 32
theorem LimD.drewN {w : World} {lb bb : Nat} {l : List UInt8} (h : LimD w lb bb l) (n : Nat) : LimD (w.drewN n) lb bb l := ⟨h.head, h.row, h.ne, h.len⟩
/-- A string that does not fit is cut. -/
theorem run_copy_str_cut {P : Program} (w : World) (dT sT ty elem : TypeId) (g o dLen dCap : Nat) (s : ByteArray) (cur : Array Value) (t : TypeId)
    (hu : P.underlying dT = some (.slice elem)) (hs : (P.info? elem).map (·.size) = some 1) (hg : w.heap[g]? = some (.cells cur t (0, 0))) (hle : dLen ≤ s.size) (hfit : o + dLen ≤ cur.size) :
    (Builtin.copy_ #[dT, sT] ty #[.slice (some ⟨g, o, none⟩) dLen dCap, .string s]).run P w =
      .ok (goInt dLen) (w.setRow g (cur.toList.take o ++ Lib.byteCells (s.data.toList.take dLen) ++ cur.toList.drop (o + dLen)).toArray) := by
  have hlen : (Lib.byteCells (s.data.toList.take dLen)).length = dLen := by
    rw [Lib.byteCells_length, List.length_take, ← Lib.size_eq]
    exact Nat.min_eq_left hle
  have hst := run_storeCells_at P g o t (Lib.byteCells (s.data.toList.take dLen)) 0 cur w hg (by rw [hlen]; simpa using hfit) (Lib.byteCells_one _)
  have hmin : Nat.min s.size dLen = dLen := Nat.min_eq_right hle
  have htk : List.take dLen (List.map (fun b : UInt8 => Value.int IntKind.u8 (b.toNat : Int)) s.data.toList) = Lib.byteCells (s.data.toList.take dLen) := by
    rw [← List.map_take]
    rfl
  rw [hlen] at hst
  simp only [Nat.add_zero] at hst
  cases hq : P.info? elem with
  | none => simp [hq] at hs
  | some i =>
    simp [Builtin.copy_, run_underlying hu, Builtin.lenOf, Builtin.firstCells, sizeOf, typeInfo, hq, hmin]
    rw [htk, hst]
    simp [Result.andThen]
theorem limRow_cut (l s : List UInt8) (hl : l.length < 32) (h : 32 ≤ l.length + s.length) : ((limRow l).toList.take l.length ++ Lib.byteCells (s.take (32 - l.length)) ++ (limRow l).toList.drop (l.length + (32 - l.length))).toArray = limRow ((l ++ s).take 32) := by
  have e1 : (Lib.byteCells l).length = l.length := bc_len l
  have e2 : (l ++ s).take 32 = l ++ s.take (32 - l.length) := by rw [List.take_append, List.take_of_length_le (by omega)]
  have e3 : (l ++ s.take (32 - l.length)).length = 32 := by rw [List.length_append, List.length_take]; omega
  rw [e2]
  simp only [limRow]
  rw [List.take_left' e1, List.drop_of_length_le (by rw [List.length_append, e1, List.length_replicate]; omega), e3, Nat.sub_self, List.append_nil, List.replicate_zero, List.append_nil]
  simp [Lib.byteCells]
theorem cut_len (l s : List UInt8) (h : 32 ≤ l.length + s.length) : ((l ++ s).take 32).length = 32 := by rw [List.length_take, List.length_append]; omega
theorem Lim.full {w : World} {lb bb : Nat} {l L : List UInt8} (h : Lim w lb bb l) (hL : L.length = 32) :
    LimD ((w.setRow bb (limRow L)).setCell ⟨lb, 1, none⟩ (.int .i64 32)) lb bb L := by
  refine ⟨?_, ?_, h.ne, hL⟩
  · have hh : (w.setRow bb (limRow L)).heap[lb]? = some (.cells #[.slice (some ⟨bb, 0, none⟩) 32 32, .int .i64 l.length] 114 (0, 0)) := by rw [setRow_other _ _ _ _ h.ne]; exact h.head
    rw [Lib.heap_setCell_same (i := 1) hh]
    rfl
  · rw [Below.heap_setCell _ _ _ _ (Ne.symm h.ne)]
    exact setRow_heap w bb _ _ _ _ h.row
/-- What a write that fills the writer leaves. -/
def Died (S : List Nat) (w : World) (lb bb : Nat) (L : List UInt8) (e : Ending) (w' : World) : Prop := e = .panicked [{ v := PVL, recovered := false }] ∧ LimD w' lb bb L ∧ Touch S w w'
set_option maxRecDepth 100000 in
theorem lim_wsD (w : World) (lb bb : Nat) (l : List UInt8) (s : ByteArray) (h : Lim w lb bb l) (hs : 32 ≤ l.length + s.size) :
    Calls Tryz.prog 303 #[.pointer (some ⟨lb, 0, none⟩), .string s] w (Died [lb, bb] w lb bb ((l ++ s.data.toList).take 32)) := by
  have hsz : s.data.toList.length = s.size := by rw [Array.length_toList]; rfl
  have hlt := h.lt
  have h0 := h.h0
  have h1 := h.h1
  have f1 := h.f1
  have hcp := run_copy_str_cut (P := Tryz.prog) w 29 9 3 5 bb l.length (32 - l.length) (32 - l.length) s (limRow l) 5 Tryz.underlying29 (by kernel_rfl) h.row (by omega) (by rw [limRow_size l hlt]; omega)
  have hcq := run_copy_str_cut (P := Tryz.prog) w.drew 29 9 3 5 bb l.length (32 - l.length) (32 - l.length) s (limRow l) 5 Tryz.underlying29 (by kernel_rfl) h.row (by omega) (by rw [limRow_size l hlt]; omega)
  rw [limRow_cut l s.data.toList hlt (by omega)] at hcp hcq
  have hL32 := cut_len l s.data.toList (by omega)
  generalize (l ++ s.data.toList).take 32 = L at *
  have hc0 : (w.setRow bb (limRow L)).cell? ⟨lb, 0, none⟩ = some (.slice (some ⟨bb, 0, none⟩) 32 32) := by rw [cell_setRow_other _ _ _ _ h.ne]; exact h0
  have hc1 : (w.setRow bb (limRow L)).cell? ⟨lb, 1, none⟩ = some (.int .i64 l.length) := by rw [cell_setRow_other _ _ _ _ h.ne]; exact h1
  have hf1 : (w.setRow bb (limRow L)).frozen? ⟨lb, 1, none⟩ = false := by
    have := setRow_other w bb lb (limRow L) h.ne
    rw [World.frozen?_of_block (w := w) (a := ⟨lb, 1, none⟩) this]; exact f1
  have hd0 : (w.drew.setRow bb (limRow L)).cell? ⟨lb, 0, none⟩ = some (.slice (some ⟨bb, 0, none⟩) 32 32) := hc0
  have hd1 : (w.drew.setRow bb (limRow L)).cell? ⟨lb, 1, none⟩ = some (.int .i64 l.length) := hc1
  have hdf : (w.drew.setRow bb (limRow L)).frozen? ⟨lb, 1, none⟩ = false := hf1
  obtain ⟨k, hk⟩ : ∃ k, k = l.length := ⟨_, rfl⟩
  obtain ⟨d, hd⟩ : ∃ d, d = 32 - l.length := ⟨_, rfl⟩
  have hsum : IntKind.i64.wrap ((k : Int) + (d : Int)) = 32 := by rw [IntWalk.i64_in _ (by omega)]; omega
  have HP := Lib.hid (h.full hL32)
  have HT := Lib.hid (((Touch.refl [lb, bb] w).setRow bb (.inl (by simp)) (limRow L)).setCell ⟨lb, 1, none⟩ (.inl (by simp)) (.int .i64 32))
  have hsl := run_tail bb l.length hlt
  rw [← hd] at hcp hcq hsl
  rw [← hk] at hcp hcq hsl h1 hc1 hd1
  clear hL32 hsz h hd hk hlt
  go_enter Tryz.func303, Tryz.ntmps303
  go_wp2
  go_region
  all_goals go_wp2
  all_goals go_region
  all_goals go_wp2
  all_goals exact ⟨rfl, rfl, HP.out.drewN 2, HT.out.drewN 2⟩
theorem limRow_set (l : List UInt8) (c : UInt8) (h : l.length < 32) : (limRow l).setIfInBounds l.length (.int .u8 (c.toNat : Int)) = limRow (l ++ [c]) := by
  apply Array.ext'
  simp only [limRow, List.setIfInBounds_toArray]
  have e : 32 - l.length = (32 - (l ++ [c]).length) + 1 := by simp; omega
  have e2 : l.length = (Lib.byteCells l).length := (bc_len l).symm
  rw [e, List.replicate_succ, e2, List.set_append_right _ _ (Nat.le_refl _), Nat.sub_self]
  simp [Lib.byteCells]
theorem limRow_at (l : List UInt8) (h : l.length < 32) : (limRow l)[l.length]? = some (.int .u8 0) := by
  simp only [limRow, List.getElem?_toArray]
  rw [List.getElem?_append_right (by rw [bc_len]; exact Nat.le_refl _), bc_len, Nat.sub_self]
  simp [List.getElem?_replicate]; omega
theorem Lim.byte {w : World} {lb bb : Nat} {l : List UInt8} (h : Lim w lb bb l) (c : UInt8) (z : Int) :
    ((w.setCell ⟨bb, l.length, none⟩ (.int .u8 (c.toNat : Int))).setCell ⟨lb, 1, none⟩ (.int .i64 z)).heap[lb]? = some (.cells #[.slice (some ⟨bb, 0, none⟩) 32 32, .int .i64 z] 114 (0, 0)) ∧
    ((w.setCell ⟨bb, l.length, none⟩ (.int .u8 (c.toNat : Int))).setCell ⟨lb, 1, none⟩ (.int .i64 z)).heap[bb]? = some (.cells (limRow (l ++ [c])) 5 (0, 0)) := by
  have hh : (w.setCell ⟨bb, l.length, none⟩ (.int .u8 (c.toNat : Int))).heap[lb]? = some (.cells #[.slice (some ⟨bb, 0, none⟩) 32 32, .int .i64 l.length] 114 (0, 0)) := by
    rw [Below.heap_setCell _ _ _ _ h.ne]; exact h.head
  constructor
  · rw [Lib.heap_setCell_same (i := 1) hh]
    rfl
  · rw [Below.heap_setCell _ _ _ _ (Ne.symm h.ne), Lib.heap_setCell_same (i := l.length) h.row, limRow_set l c h.lt]
set_option maxRecDepth 100000 in
theorem lim_wb (w : World) (lb bb : Nat) (l : List UInt8) (c : UInt8) (h : Lim w lb bb l) (hs : l.length + 1 < 32) :
    Calls Tryz.prog 302 #[.pointer (some ⟨lb, 0, none⟩), .int .u8 (c.toNat : Int)] w (Wrote [lb, bb] w lb bb (l ++ [c]) .nilIface) := by
  have h0 := h.h0
  have h1 := h.h1
  have f1 := h.f1
  have hc : w.cell? ⟨bb, l.length, none⟩ = some (.int .u8 0) := by rw [Lib.cell_of_heap h.row]; exact limRow_at l h.lt
  have hf : w.frozen? ⟨bb, l.length, none⟩ = false := by simp [World.frozen?, h.row]
  have hne : lb ≠ bb := h.ne
  have hne2 : bb ≠ lb := Ne.symm h.ne
  obtain ⟨k, hk⟩ : ∃ k, k = l.length := ⟨_, rfl⟩
  have hk31 : k < 31 := by omega
  have hb := h.byte c ((k : Int) + 1)
  have HP := Lib.hid (show Lim ((w.setCell ⟨bb, k, none⟩ (.int .u8 (c.toNat : Int))).setCell ⟨lb, 1, none⟩ (.int .i64 ((k : Int) + 1))) lb bb (l ++ [c]) from by
    rw [← hk] at hb
    refine ⟨?_, hb.2, h.ne, by simp; omega⟩
    rw [hb.1]
    have : ((k : Int) + 1) = ((l ++ [c]).length : Int) := by rw [List.length_append, List.length_singleton, ← hk]; push_cast; rfl
    rw [this])
  have HT := Lib.hid (((Touch.refl [lb, bb] w).setCell ⟨bb, k, none⟩ (.inl (by simp)) (.int .u8 (c.toNat : Int))).setCell ⟨lb, 1, none⟩ (.inl (by simp)) (.int .i64 ((k : Int) + 1)))
  have hw : IntKind.i64.wrap ((k : Int) + 1) = (k : Int) + 1 := IntWalk.i64_in _ (by omega)
  have h32 : ((k : Int) + 1 == 32) = false := by rw [beq_eq_false_iff_ne]; omega
  rw [← hk] at h1 hc hf
  clear hb h hk hs
  go_enter Tryz.func302, Tryz.ntmps302
  go_wp2
  go_region
  all_goals go_wp2
  all_goals try go_region
  all_goals try go_wp2
  all_goals go_ret
  all_goals first | exact ⟨rfl, HP.out.drewN 1, HT.out.drewN 1⟩ | exact ⟨rfl, HP.out.drewN 2, HT.out.drewN 2⟩ | exact ⟨rfl, HP.out.drewN 3, HT.out.drewN 3⟩
set_option maxRecDepth 100000 in
theorem lim_wbD (w : World) (lb bb : Nat) (l : List UInt8) (c : UInt8) (h : Lim w lb bb l) (hs : l.length = 31) :
    Calls Tryz.prog 302 #[.pointer (some ⟨lb, 0, none⟩), .int .u8 (c.toNat : Int)] w (Died [lb, bb] w lb bb (l ++ [c])) := by
  have h0 := h.h0
  have h1 := h.h1
  have f1 := h.f1
  have hc : w.cell? ⟨bb, l.length, none⟩ = some (.int .u8 0) := by rw [Lib.cell_of_heap h.row]; exact limRow_at l h.lt
  have hf : w.frozen? ⟨bb, l.length, none⟩ = false := by simp [World.frozen?, h.row]
  have hne : lb ≠ bb := h.ne
  have hne2 : bb ≠ lb := Ne.symm h.ne
  have hb := h.byte c 32
  rw [hs] at h1 hc hf hb
  have HP := Lib.hid (show LimD ((w.setCell ⟨bb, 31, none⟩ (.int .u8 (c.toNat : Int))).setCell ⟨lb, 1, none⟩ (.int .i64 32)) lb bb (l ++ [c]) from ⟨hb.1, hb.2, h.ne, by simp; omega⟩)
  have HT := Lib.hid (((Touch.refl [lb, bb] w).setCell ⟨bb, 31, none⟩ (.inl (by simp)) (.int .u8 (c.toNat : Int))).setCell ⟨lb, 1, none⟩ (.inl (by simp)) (.int .i64 32))
  clear hb h hs
  go_enter Tryz.func302, Tryz.ntmps302
  go_wp2
  go_region
  all_goals go_wp2
  all_goals try go_region
  all_goals try go_wp2
  all_goals first | exact ⟨rfl, rfl, HP.out.drewN 1, HT.out.drewN 1⟩ | exact ⟨rfl, rfl, HP.out.drewN 2, HT.out.drewN 2⟩ | exact ⟨rfl, rfl, HP.out.drewN 3, HT.out.drewN 3⟩
end Go.Proofs.YtdkccihoecpcaaaGreatFmt
