/- Rows of strings, and of interface values made of them: what the quotient of two strings makes, and what the classifier makes of it. Conditions: at most 65537 pieces. -/
import Derived.Test.YtfmjeacjfnlhiaaGreatDoorSplit
import Derived.Test.YtfmjeacjfnlhiaaGreatDoorHas
import Derived.Lib.SliceRun
import Derived.Deep.Heap
namespace Go.Proofs.YtfmjeacjfnlhiaaGreatDoor
open Go.RowKit Go
@[go_sem] theorem as_int_num (v : Value) (w : World) : (Instr.typeAssert (.iface 3 v) 20 69 true).run Tryz.prog w = .ok (.tuple #[.string ByteArray.empty, .bool false]) w := by kernel_rfl
@[go_sem] theorem as_int_int (v : Value) (w : World) : (Instr.typeAssert (.iface 3 v) 20 3 true).run Tryz.prog w = .ok (.tuple #[v, .bool true]) w := by kernel_rfl
@[go_sem] theorem as_int_f64 (v : Value) (w : World) : (Instr.typeAssert (.iface 3 v) 20 22 true).run Tryz.prog w = .ok (.tuple #[.float .f64 0, .bool false]) w := by kernel_rfl
@[go_sem] theorem as_int_big (v : Value) (w : World) : (Instr.typeAssert (.iface 3 v) 20 35 true).run Tryz.prog w = .ok (.tuple #[.pointer none, .bool false]) w := by kernel_rfl
@[go_sem] theorem as_int_str (v : Value) (w : World) : (Instr.typeAssert (.iface 3 v) 20 9 true).run Tryz.prog w = .ok (.tuple #[.string ByteArray.empty, .bool false]) w := by kernel_rfl
@[go_sem] theorem as_int_arr (v : Value) (w : World) : (Instr.typeAssert (.iface 3 v) 20 44 true).run Tryz.prog w = .ok (.tuple #[.slice none 0 0, .bool false]) w := by kernel_rfl
@[go_sem] theorem as_int_map (v : Value) (w : World) : (Instr.typeAssert (.iface 3 v) 20 65 true).run Tryz.prog w = .ok (.tuple #[.map none, .bool false]) w := by kernel_rfl
@[go_sem] theorem as_int_bool (v : Value) (w : World) : (Instr.typeAssert (.iface 3 v) 20 4 true).run Tryz.prog w = .ok (.tuple #[.bool false, .bool false]) w := by kernel_rfl
@[go_sem] theorem as_f64_num (v : Value) (w : World) : (Instr.typeAssert (.iface 22 v) 20 69 true).run Tryz.prog w = .ok (.tuple #[.string ByteArray.empty, .bool false]) w := by kernel_rfl
@[go_sem] theorem as_f64_int (v : Value) (w : World) : (Instr.typeAssert (.iface 22 v) 20 3 true).run Tryz.prog w = .ok (.tuple #[.int .i64 0, .bool false]) w := by kernel_rfl
@[go_sem] theorem as_f64_f64 (v : Value) (w : World) : (Instr.typeAssert (.iface 22 v) 20 22 true).run Tryz.prog w = .ok (.tuple #[v, .bool true]) w := by kernel_rfl
@[go_sem] theorem as_f64_big (v : Value) (w : World) : (Instr.typeAssert (.iface 22 v) 20 35 true).run Tryz.prog w = .ok (.tuple #[.pointer none, .bool false]) w := by kernel_rfl
@[go_sem] theorem as_f64_str (v : Value) (w : World) : (Instr.typeAssert (.iface 22 v) 20 9 true).run Tryz.prog w = .ok (.tuple #[.string ByteArray.empty, .bool false]) w := by kernel_rfl
@[go_sem] theorem as_f64_arr (v : Value) (w : World) : (Instr.typeAssert (.iface 22 v) 20 44 true).run Tryz.prog w = .ok (.tuple #[.slice none 0 0, .bool false]) w := by kernel_rfl
@[go_sem] theorem as_f64_map (v : Value) (w : World) : (Instr.typeAssert (.iface 22 v) 20 65 true).run Tryz.prog w = .ok (.tuple #[.map none, .bool false]) w := by kernel_rfl
@[go_sem] theorem as_f64_bool (v : Value) (w : World) : (Instr.typeAssert (.iface 22 v) 20 4 true).run Tryz.prog w = .ok (.tuple #[.bool false, .bool false]) w := by kernel_rfl
@[go_sem] theorem as_big_num (v : Value) (w : World) : (Instr.typeAssert (.iface 35 v) 20 69 true).run Tryz.prog w = .ok (.tuple #[.string ByteArray.empty, .bool false]) w := by kernel_rfl
@[go_sem] theorem as_big_int (v : Value) (w : World) : (Instr.typeAssert (.iface 35 v) 20 3 true).run Tryz.prog w = .ok (.tuple #[.int .i64 0, .bool false]) w := by kernel_rfl
@[go_sem] theorem as_big_f64 (v : Value) (w : World) : (Instr.typeAssert (.iface 35 v) 20 22 true).run Tryz.prog w = .ok (.tuple #[.float .f64 0, .bool false]) w := by kernel_rfl
@[go_sem] theorem as_big_big (v : Value) (w : World) : (Instr.typeAssert (.iface 35 v) 20 35 true).run Tryz.prog w = .ok (.tuple #[v, .bool true]) w := by kernel_rfl
@[go_sem] theorem as_big_str (v : Value) (w : World) : (Instr.typeAssert (.iface 35 v) 20 9 true).run Tryz.prog w = .ok (.tuple #[.string ByteArray.empty, .bool false]) w := by kernel_rfl
@[go_sem] theorem as_big_arr (v : Value) (w : World) : (Instr.typeAssert (.iface 35 v) 20 44 true).run Tryz.prog w = .ok (.tuple #[.slice none 0 0, .bool false]) w := by kernel_rfl
@[go_sem] theorem as_big_map (v : Value) (w : World) : (Instr.typeAssert (.iface 35 v) 20 65 true).run Tryz.prog w = .ok (.tuple #[.map none, .bool false]) w := by kernel_rfl
@[go_sem] theorem as_big_bool (v : Value) (w : World) : (Instr.typeAssert (.iface 35 v) 20 4 true).run Tryz.prog w = .ok (.tuple #[.bool false, .bool false]) w := by kernel_rfl
@[go_sem] theorem as_str_num (v : Value) (w : World) : (Instr.typeAssert (.iface 9 v) 20 69 true).run Tryz.prog w = .ok (.tuple #[.string ByteArray.empty, .bool false]) w := by kernel_rfl
@[go_sem] theorem as_str_int (v : Value) (w : World) : (Instr.typeAssert (.iface 9 v) 20 3 true).run Tryz.prog w = .ok (.tuple #[.int .i64 0, .bool false]) w := by kernel_rfl
@[go_sem] theorem as_str_f64 (v : Value) (w : World) : (Instr.typeAssert (.iface 9 v) 20 22 true).run Tryz.prog w = .ok (.tuple #[.float .f64 0, .bool false]) w := by kernel_rfl
@[go_sem] theorem as_str_big (v : Value) (w : World) : (Instr.typeAssert (.iface 9 v) 20 35 true).run Tryz.prog w = .ok (.tuple #[.pointer none, .bool false]) w := by kernel_rfl
@[go_sem] theorem as_str_str (v : Value) (w : World) : (Instr.typeAssert (.iface 9 v) 20 9 true).run Tryz.prog w = .ok (.tuple #[v, .bool true]) w := by kernel_rfl
@[go_sem] theorem as_str_arr (v : Value) (w : World) : (Instr.typeAssert (.iface 9 v) 20 44 true).run Tryz.prog w = .ok (.tuple #[.slice none 0 0, .bool false]) w := by kernel_rfl
@[go_sem] theorem as_str_map (v : Value) (w : World) : (Instr.typeAssert (.iface 9 v) 20 65 true).run Tryz.prog w = .ok (.tuple #[.map none, .bool false]) w := by kernel_rfl
@[go_sem] theorem as_str_bool (v : Value) (w : World) : (Instr.typeAssert (.iface 9 v) 20 4 true).run Tryz.prog w = .ok (.tuple #[.bool false, .bool false]) w := by kernel_rfl
@[go_sem] theorem as_arr_num (v : Value) (w : World) : (Instr.typeAssert (.iface 44 v) 20 69 true).run Tryz.prog w = .ok (.tuple #[.string ByteArray.empty, .bool false]) w := by kernel_rfl
@[go_sem] theorem as_arr_int (v : Value) (w : World) : (Instr.typeAssert (.iface 44 v) 20 3 true).run Tryz.prog w = .ok (.tuple #[.int .i64 0, .bool false]) w := by kernel_rfl
@[go_sem] theorem as_arr_f64 (v : Value) (w : World) : (Instr.typeAssert (.iface 44 v) 20 22 true).run Tryz.prog w = .ok (.tuple #[.float .f64 0, .bool false]) w := by kernel_rfl
@[go_sem] theorem as_arr_big (v : Value) (w : World) : (Instr.typeAssert (.iface 44 v) 20 35 true).run Tryz.prog w = .ok (.tuple #[.pointer none, .bool false]) w := by kernel_rfl
@[go_sem] theorem as_arr_str (v : Value) (w : World) : (Instr.typeAssert (.iface 44 v) 20 9 true).run Tryz.prog w = .ok (.tuple #[.string ByteArray.empty, .bool false]) w := by kernel_rfl
@[go_sem] theorem as_arr_arr (v : Value) (w : World) : (Instr.typeAssert (.iface 44 v) 20 44 true).run Tryz.prog w = .ok (.tuple #[v, .bool true]) w := by kernel_rfl
@[go_sem] theorem as_arr_map (v : Value) (w : World) : (Instr.typeAssert (.iface 44 v) 20 65 true).run Tryz.prog w = .ok (.tuple #[.map none, .bool false]) w := by kernel_rfl
@[go_sem] theorem as_arr_bool (v : Value) (w : World) : (Instr.typeAssert (.iface 44 v) 20 4 true).run Tryz.prog w = .ok (.tuple #[.bool false, .bool false]) w := by kernel_rfl
@[go_sem] theorem as_zmod_int (v : Value) (w : World) : (Instr.typeAssert (.iface 47 v) 20 3 true).run Tryz.prog w = .ok (.tuple #[.int .i64 0, .bool false]) w := by kernel_rfl
@[go_sem] theorem as_zmod_f64 (v : Value) (w : World) : (Instr.typeAssert (.iface 47 v) 20 22 true).run Tryz.prog w = .ok (.tuple #[.float .f64 0, .bool false]) w := by kernel_rfl
@[go_sem] theorem as_zmod_big (v : Value) (w : World) : (Instr.typeAssert (.iface 47 v) 20 35 true).run Tryz.prog w = .ok (.tuple #[.pointer none, .bool false]) w := by kernel_rfl
@[go_sem] theorem as_zmod_str (v : Value) (w : World) : (Instr.typeAssert (.iface 47 v) 20 9 true).run Tryz.prog w = .ok (.tuple #[.string ByteArray.empty, .bool false]) w := by kernel_rfl
@[go_sem] theorem as_zmod_arr (v : Value) (w : World) : (Instr.typeAssert (.iface 47 v) 20 44 true).run Tryz.prog w = .ok (.tuple #[.slice none 0 0, .bool false]) w := by kernel_rfl
@[go_sem] theorem as_zmod_zdiv (v : Value) (w : World) : (Instr.typeAssert (.iface 47 v) 20 46 true).run Tryz.prog w = .ok (.tuple #[.pointer none, .bool false]) w := by kernel_rfl
@[go_sem] theorem as_zmod_zmod (v : Value) (w : World) : (Instr.typeAssert (.iface 47 v) 20 47 true).run Tryz.prog w = .ok (.tuple #[v, .bool true]) w := by kernel_rfl
@[go_sem] theorem as_zdiv_int (v : Value) (w : World) : (Instr.typeAssert (.iface 46 v) 20 3 true).run Tryz.prog w = .ok (.tuple #[.int .i64 0, .bool false]) w := by kernel_rfl
@[go_sem] theorem as_zdiv_f64 (v : Value) (w : World) : (Instr.typeAssert (.iface 46 v) 20 22 true).run Tryz.prog w = .ok (.tuple #[.float .f64 0, .bool false]) w := by kernel_rfl
@[go_sem] theorem as_zdiv_big (v : Value) (w : World) : (Instr.typeAssert (.iface 46 v) 20 35 true).run Tryz.prog w = .ok (.tuple #[.pointer none, .bool false]) w := by kernel_rfl
@[go_sem] theorem as_zdiv_str (v : Value) (w : World) : (Instr.typeAssert (.iface 46 v) 20 9 true).run Tryz.prog w = .ok (.tuple #[.string ByteArray.empty, .bool false]) w := by kernel_rfl
@[go_sem] theorem as_zdiv_arr (v : Value) (w : World) : (Instr.typeAssert (.iface 46 v) 20 44 true).run Tryz.prog w = .ok (.tuple #[.slice none 0 0, .bool false]) w := by kernel_rfl
@[go_sem] theorem as_zdiv_zdiv (v : Value) (w : World) : (Instr.typeAssert (.iface 46 v) 20 46 true).run Tryz.prog w = .ok (.tuple #[v, .bool true]) w := by kernel_rfl
@[go_sem] theorem as_zdiv_zmod (v : Value) (w : World) : (Instr.typeAssert (.iface 46 v) 20 47 true).run Tryz.prog w = .ok (.tuple #[.pointer none, .bool false]) w := by kernel_rfl
@[go_sem] theorem run_store_floatS {P : Program} (w : World) (a : Addr) (m : Mode) (k : FloatKind) (x : Nat) : (store a (.float k x) m).run P w = stored P w a (.float k x) m := run_store P w a _ m rfl
theorem infoAnyS : (Tryz.prog.info? 20).map (fun i => (i.zero, i.size, i.bytes)) = some (some .nilIface, 1, 16) := by kernel_rfl
def gs (ps : List ByteArray) (k : Nat) : ByteArray := ps.getD k ByteArray.empty
def wrapS (p : ByteArray) : Value := .iface 9 (.string p)
/-- The first k laid, the rest zero. -/
def rowOf (f : ByteArray → Value) (z : Value) (ps : List ByteArray) (k : Nat) : Array Value := ((ps.take k).map f ++ List.replicate (ps.length - k) z).toArray
theorem rowOf_zero (f : ByteArray → Value) (z : Value) (ps : List ByteArray) : madeCells #[z] (ps.length * 1) = rowOf f z ps 0 := by
  simp [rowOf, madeCells]
  apply Array.ext <;> simp [Nat.mod_one]
theorem rowOf_get (f : ByteArray → Value) (z : Value) (ps : List ByteArray) (k : Nat) (h : k < ps.length) : (rowOf f z ps k)[k]? = some z := by
  simp only [rowOf, List.getElem?_toArray]
  rw [List.getElem?_append_right (by simp; omega)]
  simp [List.getElem?_replicate]; omega
theorem rowOf_set (f : ByteArray → Value) (z : Value) (ps : List ByteArray) (k : Nat) (h : k < ps.length) : (rowOf f z ps k).setIfInBounds k (f (gs ps k)) = rowOf f z ps (k + 1) := by
  apply Array.ext'
  simp only [rowOf, List.setIfInBounds_toArray]
  have e : ps.length - k = (ps.length - (k + 1)) + 1 := by omega
  rw [List.set_append_right _ _ (by simp; omega), e, List.replicate_succ, List.take_succ_eq_append_getElem h, List.map_append]
  simp [gs, List.getD_eq_getElem?_getD, List.getElem?_eq_getElem h, Nat.min_eq_left (Nat.le_of_lt h), - List.map_take]
theorem rowOf_all (f : ByteArray → Value) (z : Value) (ps : List ByteArray) (k : Nat) (h : k < ps.length) : (rowOf f z ps ps.length)[k]? = some (f (gs ps k)) := by
  simp [rowOf, gs, List.getD_eq_getElem?_getD, List.getElem?_eq_getElem h]
theorem make_anyS (w : World) (n : Nat) (ps : List ByteArray) (hz : ps.length = n) (h : n ≤ 1048576) :
    (Instr.makeSlice 44 (.int .i64 n) (.int .i64 n)).run Tryz.prog w = .ok (.slice (some ⟨w.heap.size, 0, none⟩) n n) (w.alloc (.cells (rowOf wrapS .nilIface ps 0) 20)) := by
  obtain ⟨i0, hi, hz0, hz1, hz2⟩ := info_parts infoAnyS
  rw [run_make w 44 20 i0 .nilIface Tryz.underlying44 hi hz0 .i64 .i64 n n (by omega) (by omega) (by rw [hz2]; omega) (by omega)]
  rw [hz1, ← hz, Int.toNat_natCast, ← rowOf_zero]
  rfl
theorem make_strS (w : World) (n : Nat) (ps : List ByteArray) (hz : ps.length = n) (h : n ≤ 1048576) :
    (Instr.makeSlice 23 (.int .i64 n) (.int .i64 n)).run Tryz.prog w = .ok (.slice (some ⟨w.heap.size, 0, none⟩) n n) (w.alloc (.cells (rowOf Value.string (.string ⟨#[]⟩) ps 0) 9)) := by
  obtain ⟨i0, hi, hz0, hz1, hz2⟩ := info_parts info_str
  rw [run_make w 23 9 i0 (.string ⟨#[]⟩) Tryz.underlying23 hi hz0 .i64 .i64 n n (by omega) (by omega) (by rw [hz2]; omega) (by omega)]
  rw [hz1, ← hz, Int.toNat_natCast, ← rowOf_zero]
  rfl
/-- A slice of interface values that reads as these strings. -/
def AnysS (w : World) (ao : Option Addr) (ps : List ByteArray) : Prop := ∀ k, k < ps.length → ∃ b off, ao = some ⟨b, off, none⟩ ∧ w.cell? ⟨b, off + k, none⟩ = some (.iface 9 (.string (gs ps k)))
/-- A block that reads as these strings. -/
def StrsAt (w : World) (bo : Nat) (ps : List ByteArray) : Prop := ∀ k, k < ps.length → w.cell? ⟨bo, k, none⟩ = some (.string (gs ps k))
theorem cell_newS (w : World) (c : Array Value) (t : TypeId) (k : Nat) : (w.alloc (.cells c t)).cell? ⟨w.heap.size, 0 + k, none⟩ = c[k]? := by simp
/-- What the quotient of two strings is. -/
def Quot (l r : ByteArray) (ps : List ByteArray) : Prop := ps.length ≤ 65537 ∧ (l.size = 0 ∧ ps = [] ∨ l.size ≠ 0 ∧ Whole l r ps)
def DivPost (l r : ByteArray) (w : World) (e : Ending) (w' : World) : Prop := ∃ ps ao cap, e = .returned (.iface 44 (.slice ao ps.length cap)) ∧ Quot l r ps ∧ AnysS w' ao ps ∧ Below w.heap.size w w'
theorem split_any (l r : ByteArray) (hl0 : l.size ≠ 0) (hl : l.size ≤ 65536) (hr2 : r.size ≤ 4096) (w : World) (hU : U8 w.heap.size w) : Calls Tryz.prog 26 #[.string l, .string r] w (SplitPost l r w) := by
  by_cases hr : r.size = 0
  · exact split_empty l r hr hl hl0 w hU
  · exact split_some l r hr hl hr2 w
theorem ownS_gs {B : Nat} {ao : Option Addr} {n c : Nat} {ps : List ByteArray} {w : World} (h : OwnS B (.slice ao n c) ps w) (k : Nat) (hk : k < ps.length) : ∃ g, ao = some ⟨g, 0, none⟩ ∧ w.cell? ⟨g, k, none⟩ = some (.string (gs ps k)) := by
  obtain ⟨g, h1, h2⟩ := ownS_cell h k hk
  refine ⟨g, h1, ?_⟩
  rw [h2]
  simp [gs, List.getD_eq_getElem?_getD, List.getElem?_eq_getElem hk]
set_option maxRecDepth 100000 in
set_option maxHeartbeats 1600000 in
theorem div4_any (l r : ByteArray) (hl : l.size ≤ 65536) (hr2 : r.size ≤ 4096) (w : World) (hU : U8 w.heap.size w) : Calls Tryz.prog 25 #[.string l, .string r] w (DivPost l r w) := by
  by_cases hl0 : l.size = 0
  · have hle : l.toList.isEmpty = true := by
      rw [Lib.toList_data]
      have : l.data.toList = [] := List.eq_nil_of_length_eq_zero (by rw [← Lib.size_eq]; exact hl0)
      rw [this]; rfl
    have HQ := Lib.hid (show Quot l r [] from ⟨by simp, Or.inl ⟨hl0, rfl⟩⟩)
    clear hU hl0
    go_enter Tryz.func25, Tryz.ntmps25
    go_wp2
    go_ret
    exact ⟨[], _, _, rfl, HQ.out, fun k hk => by simp at hk, (Below.refl _ _).alloc (Nat.le_refl _) _⟩
  · have hle : l.toList.isEmpty = false := by
      rw [Lib.toList_data]
      cases h : l.data.toList with
      | nil => exact absurd (by rw [Lib.size_eq, h]; rfl) hl0
      | cons a b => rfl
    have HS := Lib.hid (split_any l r hl0 hl hr2 w hU)
    have HL := Lib.hid hl0
    clear hU hl0
    go_enter Tryz.func25, Tryz.ntmps25
    go_wp2_with fail
    try go_at_call 26
    refine HS.out.mono ?_
    rintro e w1 ⟨ps, v, rfl, hw, hps, ho, hb⟩
    obtain ⟨ao, c, rfl⟩ := ownS_slice ho
    have HO := Lib.hid (fun k (hk : k < ps.length) => ownS_gs ho k hk)
    have HB := Lib.hid hb
    have HQ := Lib.hid (show Quot l r ps from ⟨hps, Or.inr ⟨HL.out, hw⟩⟩)
    have hmk := make_anyS w1 ps.length ps rfl (by omega)
    clear hw ho hb HS
    generalize hn : ps.length = n at *
    have HN := Lib.hid hn
    clear hn
    go_wp2
    go_loopw [21] (fun ix wr => ∃ k : Nat, k ≤ n ∧ ix = .int .i64 (k : Int) ∧ wr = w1.alloc (.cells (rowOf wrapS .nilIface ps k) 20)) (fun ix _ => n - (intOf ix).toNat)
    case atStart => exact ⟨0, Nat.zero_le _, rfl, rfl⟩
    case round =>
      obtain ⟨k, hk, rfl, rfl⟩ := hrel
      by_cases hlt : k < n
      · obtain ⟨b, hao, hc⟩ := HO.out k hlt
        cases hao
        have hb : b < w1.heap.size := World.block_lt_of_cell? _ _ hc
        have hset := rowOf_set wrapS .nilIface ps k (by rw [HN.out]; exact hlt)
        have hget := rowOf_get wrapS .nilIface ps k (by rw [HN.out]; exact hlt)
        simp only [wrapS] at hset
        clear hmk
        go_wp2
        go_roundw
        case rel => exact ⟨k + 1, by omega, by go_num, rfl⟩
        case measure => simp [intOf]; omega
      · obtain rfl : k = n := by omega
        clear hmk
        have HAn := Lib.hid (show AnysS (w1.alloc (.cells (rowOf wrapS .nilIface ps k) 20)) (some ⟨w1.heap.size, 0, none⟩) ps from fun j hj => ⟨_, _, rfl, by
          have h := rowOf_all wrapS .nilIface ps j hj
          rw [HN.out] at h
          rw [cell_newS, h]; rfl⟩)
        have HBl := Lib.hid (show Below w.heap.size w (w1.alloc (.cells (rowOf wrapS .nilIface ps k) 20)) from HB.out.alloc HB.out.size _)
        go_wp2
        go_ret
        exact ⟨ps, _, _, by rw [HN.out]; rfl, HQ.out, HAn.out, HBl.out⟩
set_option maxRecDepth 100000 in
set_option maxHeartbeats 1600000 in
theorem classify_strs (ao : Option Addr) (cap : Nat) (ps : List ByteArray) (hps : ps.length ≤ 65537) (w : World) (hA : AnysS w ao ps) : Calls Tryz.prog 12 #[.iface 44 (.slice ao ps.length cap)] w fun e w' => ∃ bo, e = .returned (.agg #[.int .i64 6, .int .i64 0, .float .f64 0, .string ⟨#[]⟩, .slice (some ⟨bo, 0, none⟩) ps.length ps.length, .int .i64 0, .bool false, .int .u64 0]) ∧ w.heap.size ≤ bo ∧ StrsAt w' bo ps ∧ Below w.heap.size w w' := by
  have HA := Lib.hid hA
  clear hA
  generalize hn : ps.length = n at *
  have HN := Lib.hid hn
  have hmk := fun wx => make_strS wx n ps hn (by omega)
  clear hn
  go_enter Tryz.func12, Tryz.ntmps12
  go_wp2
  go_loopw [57] (fun ix wr => ∃ k : Nat, k ≤ n ∧ ix = .int .i64 (k : Int) ∧ wr = (w.alloc (.cells #[.int .i64 0, .int .i64 0, .float .f64 0, .string ⟨#[]⟩, .slice none 0 0, .int .i64 0, .bool false, .int .u64 0] 26)).alloc (.cells (rowOf Value.string (.string ⟨#[]⟩) ps k) 9)) (fun ix _ => n - (intOf ix).toNat)
  case atStart => exact ⟨0, Nat.zero_le _, rfl, rfl⟩
  case round =>
    obtain ⟨k, hk, rfl, rfl⟩ := hrel
    by_cases hlt : k < n
    · obtain ⟨b, off, hao, hc⟩ := HA.out k (by rw [HN.out]; exact hlt)
      cases hao
      have hb : b < w.heap.size := World.block_lt_of_cell? _ _ hc
      have hset := rowOf_set Value.string (.string ⟨#[]⟩) ps k (by rw [HN.out]; exact hlt)
      have hget := rowOf_get Value.string (.string ⟨#[]⟩) ps k (by rw [HN.out]; exact hlt)
      clear hmk
      go_wp2
      go_roundw
      case rel => exact ⟨k + 1, by omega, by go_num, rfl⟩
      case measure => simp [intOf]; omega
    · obtain rfl : k = n := by omega
      clear hmk
      have HAl := Lib.hid (fun j (hj : j < ps.length) => rowOf_all Value.string (.string ⟨#[]⟩) ps j hj)
      rw [HN.out] at HAl
      generalize rowOf Value.string (.string ⟨#[]⟩) ps k = R at HAl ⊢
      go_wp2
      exact bodyPost_ret (v := .agg #[.int .i64 6, .int .i64 0, .float .f64 0, .string ⟨#[]⟩, .slice (some ⟨w.heap.size + 1, 0, none⟩) k k, .int .i64 0, .bool false, .int .u64 0]) (by simp [results, Tryz.results12, go_sem]) rfl ⟨w.heap.size + 1, rfl, by omega, fun j hj => by
        have h := HAl.out j (by rw [← HN.out]; exact hj)
        simp [h], ((Below.refl _ _).alloc (Nat.le_refl _) _).alloc (by simp) _⟩
theorem bcellS {W w1 : World} (hb : Below W.heap.size W w1) : (∀ b o, b < W.heap.size → w1.cell? ⟨b, o, none⟩ = W.cell? ⟨b, o, none⟩) ∧ (∀ b o, b < W.heap.size → w1.frozen? ⟨b, o, none⟩ = W.frozen? ⟨b, o, none⟩) :=
  ⟨fun b o h => hb.cell (p := ⟨b, o, none⟩) h, fun b o h => hb.frozen (p := ⟨b, o, none⟩) h⟩
theorem below8S {B : Nat} {a w : World} (h : Below B a w) (b : Nat) (hb : B ≤ b) (v0 v1 v2 v3 v4 v5 v6 v7 : Value) :
    Below B a ((((((((w.setCell ⟨b, 0, none⟩ v0).setCell ⟨b, 1, none⟩ v1).setCell ⟨b, 2, none⟩ v2).setCell ⟨b, 3, none⟩ v3).setCell ⟨b, 4, none⟩ v4).setCell ⟨b, 5, none⟩ v5).setCell ⟨b, 6, none⟩ v6).setCell ⟨b, 7, none⟩ v7) :=
  (((((((h.setCell (p := ⟨b, 0, none⟩) hb v0).setCell (p := ⟨b, 1, none⟩) hb v1).setCell (p := ⟨b, 2, none⟩) hb v2).setCell (p := ⟨b, 3, none⟩) hb v3).setCell (p := ⟨b, 4, none⟩) hb v4).setCell (p := ⟨b, 5, none⟩) hb v5).setCell (p := ⟨b, 6, none⟩) hb v6).setCell (p := ⟨b, 7, none⟩) hb v7
theorem strs_set {w : World} {bo : Nat} {ps : List ByteArray} (h : StrsAt w bo ps) (b o : Nat) (hb : bo ≠ b) (v : Value) : StrsAt (w.setCell ⟨b, o, none⟩ v) bo ps := fun k hk => by
  have e : (w.setCell ⟨b, o, none⟩ v).cell? ⟨bo, k, none⟩ = w.cell? ⟨bo, k, none⟩ := by
    simp only [World.cell?, Go.Deep.blk_setCell_other w ⟨b, o, none⟩ v bo hb]
  rw [e]
  exact h k hk
theorem strs8 {w : World} {bo : Nat} {ps : List ByteArray} (h : StrsAt w bo ps) (b : Nat) (hb : bo ≠ b) (v0 v1 v2 v3 v4 v5 v6 v7 : Value) :
    StrsAt ((((((((w.setCell ⟨b, 0, none⟩ v0).setCell ⟨b, 1, none⟩ v1).setCell ⟨b, 2, none⟩ v2).setCell ⟨b, 3, none⟩ v3).setCell ⟨b, 4, none⟩ v4).setCell ⟨b, 5, none⟩ v5).setCell ⟨b, 6, none⟩ v6).setCell ⟨b, 7, none⟩ v7) bo ps :=
  strs_set (strs_set (strs_set (strs_set (strs_set (strs_set (strs_set (strs_set h b 0 hb v0) b 1 hb v1) b 2 hb v2) b 3 hb v3) b 4 hb v4) b 5 hb v5) b 6 hb v6) b 7 hb v7
def ZzPost (l r : ByteArray) (w : World) (e : Ending) (w' : World) : Prop := ∃ ps bo, e = .returned (.agg #[.int .i64 6, .int .i64 0, .float .f64 0, .string ⟨#[]⟩, .slice (some ⟨bo, 0, none⟩) ps.length ps.length, .int .i64 0, .bool false, .int .u64 0]) ∧ Quot l r ps ∧ StrsAt w' bo ps ∧ Below w.heap.size w w'
set_option maxRecDepth 100000 in
set_option maxHeartbeats 1600000 in
theorem zz_divS (l r : ByteArray) (hl : l.size ≤ 65536) (hr2 : r.size ≤ 4096) (w : World) (hU : U8 w.heap.size w) : Calls Tryz.prog 9 #[.string l, .string r] w (ZzPost l r w) := by
  have HD := Lib.hid (fun w1 (hb : Below w.heap.size w w1) => div4_any l r hl hr2 w1 (u8_at (u8_below hU hb)))
  clear hU
  go_enter Tryz.func9, Tryz.ntmps9
  go_wp2_with (first | (go_at_call 13; go_in) | (go_at_call 18; go_in))
  try go_at_call 25
  refine (HD.out _ ((Below.refl _ _).alloc (Nat.le_refl _) _)).mono ?_
  rintro e w0 ⟨ps, ao, cap, rfl, hq, ha, hb0⟩
  have HQ := Lib.hid hq
  have HAn := Lib.hid ha
  obtain ⟨hc0, hf0⟩ := bcellS hb0
  have HB0 := Lib.hid hb0
  have hz0 : w.heap.size < w0.heap.size := by (have := hb0.size; simp at this; omega)
  clear hq ha hb0
  go_wp2_with fail
  try go_at_call 12
  refine (classify_strs _ _ _ HQ.out.1 _ HAn.out).mono ?_
  rintro e w1 ⟨bo, rfl, hbo, hs, hb⟩
  have HS := Lib.hid hs
  have HB := Lib.hid hb
  obtain ⟨hc, hf⟩ := bcellS hb
  clear hs hb
  go_wp2
  exact bodyPost_ret (v := .agg #[.int .i64 6, .int .i64 0, .float .f64 0, .string ⟨#[]⟩, .slice (some ⟨bo, 0, none⟩) ps.length ps.length, .int .i64 0, .bool false, .int .u64 0]) (by simp [results, Tryz.results9, go_sem, hc, hc0, hz0]) rfl ⟨ps, bo, rfl, HQ.out, strs8 HS.out _ (by omega) _ _ _ _ _ _ _ _, below8S ((((Below.refl _ _).alloc (Nat.le_refl _) _).trans (HB0.out.mono (by simp))).trans (HB.out.mono (by omega))) _ (Nat.le_refl _) _ _ _ _ _ _ _ _⟩
end Go.Proofs.YtfmjeacjfnlhiaaGreatDoor
