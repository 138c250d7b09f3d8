/- Slices of ints as they came in, their copies, and rows of interface values made of them. Conditions: at most 1048576 elements. -/
import Derived.Test.YtfmjeacjfnlhiaaGreatFmtTouch
import Derived.Lib.SliceRun
import Derived.ProofKit
import Derived.OpenShut
namespace Go.Proofs.YtfmjeacjfnlhiaaGreatFmt
open Go.RowKit Go
theorem infoAny : (Tryz.prog.info? 20).map (fun i => (i.zero, i.size, i.bytes)) = some (some .nilIface, 1, 16) := by kernel_rfl
def geti (zs : List Int) (k : Nat) : Int := zs.getD k 0
def wrapI (z : Int) : Value := .iface 3 (.int .i64 z)
def part (zs : List Int) (k : Nat) : Array Value := ((zs.take k).map wrapI ++ List.replicate (zs.length - k) Value.nilIface).toArray
theorem part_zero (zs : List Int) : madeCells #[Value.nilIface] (zs.length * 1) = part zs 0 := by
  simp [part, madeCells]
  apply Array.ext <;> simp [Nat.mod_one]
theorem size_part (zs : List Int) (k : Nat) (h : k ≤ zs.length) : (part zs k).size = zs.length := by
  simp [part]; omega
theorem part_get (zs : List Int) (k : Nat) (h : k < zs.length) : (part zs k)[k]? = some .nilIface := by
  simp only [part, List.getElem?_toArray]
  rw [List.getElem?_append_right (by simp; omega)]
  simp [List.getElem?_replicate]; omega
theorem part_set (zs : List Int) (k : Nat) (h : k < zs.length) : (part zs k).setIfInBounds k (.iface 3 (.int .i64 (geti zs k))) = part zs (k + 1) := by
  apply Array.ext'
  simp only [part, List.setIfInBounds_toArray]
  have e : zs.length - k = (zs.length - (k + 1)) + 1 := by omega
  rw [List.set_append_right _ _ (by simp; omega), e, List.replicate_succ, List.take_succ_eq_append_getElem h, List.map_append]
  simp [geti, wrapI, List.getD_eq_getElem?_getD, List.getElem?_eq_getElem h, Nat.min_eq_left (Nat.le_of_lt h), - List.map_take]
theorem make_any (w : World) (n : Nat) (zs : List Int) (hz : zs.length = n) (h : n ≤ 1048576) :
    (Instr.makeSlice 64 (.int .i64 n) (.int .i64 n)).run Tryz.prog w = .ok (.slice (some ⟨w.heap.size, 0, none⟩) n n) (w.alloc (.cells (part zs 0) 20)) := by
  obtain ⟨i0, hi, hz0, hz1, hz2⟩ := info_parts infoAny
  rw [run_make w 64 20 i0 .nilIface Tryz.underlying64 hi hz0 .i64 .i64 n n (by omega) (by omega) (by rw [hz2]; omega) (by omega)]
  rw [hz1, ← hz, Int.toNat_natCast, ← part_zero]
  rfl
/-- A slice value that reads as these ints. -/
structure IntsArg (w : World) (ao : Option Addr) (cap : Nat) (zs : List Int) : Prop where
  nil : ao = none → zs = [] ∧ cap = 0
  at' : ∀ k, k < zs.length → ∃ b off, ao = some ⟨b, off, none⟩ ∧ w.cell? ⟨b, off + k, none⟩ = some (.int .i64 (geti zs k))
/-- A slice of interface values that reads as these ints. -/
structure AnysArg (w : World) (ao : Option Addr) (zs : List Int) : Prop where
  at' : ∀ k, k < zs.length → ∃ b off, ao = some ⟨b, off, none⟩ ∧ w.cell? ⟨b, off + k, none⟩ = some (.iface 3 (.int .i64 (geti zs k)))
theorem cell_below {w w' : World} {B : Nat} (h : Below B w w') (hB : w.heap.size ≤ B) {p : Addr} {v : Value} (hc : w.cell? p = some v) : w'.cell? p = some v := by
  rw [h.cell (by have := World.block_lt_of_cell? _ _ hc; omega)]; exact hc
theorem IntsArg.below {w w' : World} {ao : Option Addr} {cap : Nat} {zs : List Int} (h : IntsArg w ao cap zs) (hb : Below w.heap.size w w') : IntsArg w' ao cap zs :=
  ⟨h.nil, fun k hk => let ⟨b, off, e, hc⟩ := h.at' k hk; ⟨b, off, e, cell_below hb (Nat.le_refl _) hc⟩⟩
theorem AnysArg.below {w w' : World} {ao : Option Addr} {zs : List Int} (h : AnysArg w ao zs) (hb : Below w.heap.size w w') : AnysArg w' ao zs :=
  ⟨fun k hk => let ⟨b, off, e, hc⟩ := h.at' k hk; ⟨b, off, e, cell_below hb (Nat.le_refl _) hc⟩⟩
theorem infoInt : (Tryz.prog.info? 3).map (fun i => (i.zero, i.size, i.bytes)) = some (some (.int .i64 0), 1, 8) := by kernel_rfl
/-- The first k copied, the rest zero. -/
def copied (zs : List Int) (k : Nat) : Array Value := ((zs.take k).map (Value.int .i64) ++ List.replicate (zs.length - k) (Value.int .i64 0)).toArray
theorem copied_zero (zs : List Int) : madeCells #[Value.int .i64 0] (zs.length * 1) = copied zs 0 := by
  simp [copied, madeCells]
  apply Array.ext <;> simp [Nat.mod_one]
theorem copied_get (zs : List Int) (k : Nat) (h : k < zs.length) : (copied zs k)[k]? = some (.int .i64 0) := by
  simp only [copied, List.getElem?_toArray]
  rw [List.getElem?_append_right (by simp; omega)]
  simp [List.getElem?_replicate]; omega
theorem copied_set (zs : List Int) (k : Nat) (h : k < zs.length) : (copied zs k).setIfInBounds k (.int .i64 (geti zs k)) = copied zs (k + 1) := by
  apply Array.ext'
  simp only [copied, List.setIfInBounds_toArray]
  have e : zs.length - k = (zs.length - (k + 1)) + 1 := by omega
  rw [List.set_append_right _ _ (by simp; omega), e, List.replicate_succ, List.take_succ_eq_append_getElem h, List.map_append]
  simp [geti, List.getD_eq_getElem?_getD, List.getElem?_eq_getElem h, Nat.min_eq_left (Nat.le_of_lt h), - List.map_take]
theorem copied_all (zs : List Int) (k : Nat) (h : k < zs.length) : (copied zs zs.length)[k]? = some (.int .i64 (geti zs k)) := by
  simp [copied, geti, List.getD_eq_getElem?_getD, List.getElem?_eq_getElem h]
theorem part_all (zs : List Int) (k : Nat) (h : k < zs.length) : (part zs zs.length)[k]? = some (.iface 3 (.int .i64 (geti zs k))) := by
  simp [part, wrapI, geti, List.getD_eq_getElem?_getD, List.getElem?_eq_getElem h]
theorem makeInts_any (w : World) (n : Nat) (zs : List Int) (hz : zs.length = n) (h : n ≤ 1048576) :
    (Instr.makeSlice 38 (.int .i64 n) (.int .i64 n)).run Tryz.prog w = .ok (.slice (some ⟨w.heap.size, 0, none⟩) n n) (w.alloc (.cells (copied zs 0) 3)) := by
  obtain ⟨i0, hi, hz0, hz1, hz2⟩ := info_parts infoInt
  rw [run_make w 38 3 i0 (.int .i64 0) Tryz.underlying38 hi hz0 .i64 .i64 n n (by omega) (by omega) (by rw [hz2]; omega) (by omega)]
  rw [hz1, ← hz, Int.toNat_natCast, ← copied_zero]
  rfl
theorem cell_new (w : World) (c : Array Value) (t : TypeId) (k : Nat) : (w.alloc (.cells c t)).cell? ⟨w.heap.size, 0 + k, none⟩ = c[k]? := by
  simp
theorem cellsInt : Tryz.prog.cellsOf 3 = 1 := by kernel_rfl
set_option maxRecDepth 100000 in
/-- An argument that is a slice of ints, opened. -/
theorem ints_opened {H : Type} {enc : TypeId × Value → H} {W : World} {base : Nat} {v : Value} {d : DataW H} {ps : List MemPlace} (hval : Value.okWide Tryz.prog W .any base 38 v)
    (h : DataW.Trod enc Tryz.prog W 0 (fun _ => true) true 38 v d ps) :
    ∃ (ao : Option Addr) (len cap : Nat) (zs : List Int), v = .slice ao len cap ∧ zs.length = len ∧ IntsArg W ao cap zs ∧ zs.length ≤ 9223372036854775807 ∧ (∀ z ∈ zs, -9223372036854775808 ≤ z ∧ z ≤ 9223372036854775807) := by
  obtain ⟨a0, len, cap, rfl⟩ := Go.WideShapes.okWide_slice Tryz.underlying38 hval
  obtain ⟨fuel, hf⟩ := h
  rcases Go.ChangeShapes.open_ints Tryz.underlying38 Tryz.underlying3 cellsInt hf with ⟨hcs, hx⟩ | ⟨a, len', cap', zs, hcs, _, hl, hm, hz, hx, hcell, hwz⟩
  · simp only [Value.cells, List.cons.injEq, Value.slice.injEq, and_true] at hcs
    obtain ⟨rfl, rfl, rfl⟩ := hcs
    exact ⟨none, 0, 0, [], rfl, rfl, ⟨fun _ => ⟨rfl, rfl⟩, fun k hk => by simp at hk⟩, by simp, fun z hz => by simp at hz⟩
  · simp only [Value.cells, List.cons.injEq, Value.slice.injEq, and_true] at hcs
    obtain ⟨rfl, rfl, rfl⟩ := hcs
    rw [if_pos rfl] at hz
    have hlz : (zs.take len).length = len := by simp; omega
    unfold maxLen at hm
    refine ⟨some a, len, cap, zs.take len, rfl, hlz, ⟨fun e => by simp at e, fun k hk => ?_⟩, by omega, fun z hzm => ?_⟩
    · obtain ⟨b, off, rfl, hc⟩ := ints_at hcell (by omega)
      refine ⟨b, off, rfl, ?_⟩
      rw [hc k (by omega)]
      simp [geti, List.getD_eq_getElem?_getD, show k < len by omega]
    · have := hwz z (List.mem_of_mem_take hzm)
      simpa [Lit.wf, IntKind.min, IntKind.max, IntKind.signed, IntKind.bits] using this
end Go.Proofs.YtfmjeacjfnlhiaaGreatFmt
