/- A slice of strings: as an argument, opened; in a new row. Conditions: none. -/
import Derived.Test.YtdkccihoecpcaaaGreatFmtTouch
import Derived.SliceStrings
import Derived.WideShapes
import Derived.OpenShut
namespace Go.Proofs.YtdkccihoecpcaaaGreatFmt
open Go.RowKit Go
def gets (ks : List ByteArray) (k : Nat) : ByteArray := ks.getD k ByteArray.empty
/-- A slice value that reads as these strings. -/
structure StrsArg (w : World) (ao : Option Addr) (cap : Nat) (ks : List ByteArray) : Prop where
  nil : ao = none → ks = [] ∧ cap = 0
  at' : ∀ k, k < ks.length → ∃ b off, ao = some ⟨b, off, none⟩ ∧ w.cell? ⟨b, off + k, none⟩ = some (.string (gets ks k))
theorem cellO_below {w w' : World} {B : Nat} (h : Below B w w') (hB : w.heap.size ≤ B) {p : Addr} {v : Value} (hc : w.cell? p = some v) : w'.cell? p = some v := by
  rw [h.cell (by have := World.block_lt_of_cell? _ _ hc; omega)]; exact hc
theorem StrsArg.below {w w' : World} {ao : Option Addr} {cap : Nat} {ks : List ByteArray} (h : StrsArg w ao cap ks) (hb : Below w.heap.size w w') : StrsArg w' ao cap ks :=
  ⟨h.nil, fun k hk => let ⟨b, off, e, hc⟩ := h.at' k hk; ⟨b, off, e, cellO_below hb (Nat.le_refl _) hc⟩⟩
theorem cellsStr : Tryz.prog.cellsOf 9 = 1 := by kernel_rfl
set_option maxRecDepth 100000 in
/-- An argument that is a slice of strings, opened. -/
theorem strs_opened {H : Type} {enc : TypeId × Value → H} {W : World} {base : Nat} {v : Value} {d : DataW H} {ps : List MemPlace} (hval : Value.okWide Tryz.prog W .any base 42 v)
    (h : DataW.Trod enc Tryz.prog W 0 (fun _ => true) true 42 v d ps) :
    ∃ (ao : Option Addr) (len cap : Nat) (ks : List ByteArray), v = .slice ao len cap ∧ ks.length = len ∧ StrsArg W ao cap ks ∧ ks.length ≤ 9223372036854775807 ∧ (∀ s ∈ ks, s.size ≤ 9223372036854775807) := by
  obtain ⟨a0, len, cap, rfl⟩ := Go.WideShapes.okWide_slice Tryz.underlying42 hval
  obtain ⟨fuel, hf⟩ := h
  rcases Go.ChangeShapes.open_strings Tryz.underlying42 Tryz.underlying9 cellsStr hf with ⟨hcs, hx⟩ | ⟨a, len', cap', ks, hcs, _, hl, hm, hz, hx, hcell, hwz⟩
  · simp only [Value.cells, List.cons.injEq, Value.slice.injEq, and_true] at hcs
    obtain ⟨rfl, rfl, rfl⟩ := hcs
    exact ⟨none, 0, 0, [], rfl, rfl, ⟨fun _ => ⟨rfl, rfl⟩, fun k hk => by simp at hk⟩, by simp, fun z hz => by simp at hz⟩
  · simp only [Value.cells, List.cons.injEq, Value.slice.injEq, and_true] at hcs
    obtain ⟨rfl, rfl, rfl⟩ := hcs
    rw [if_pos rfl] at hz
    have hlz : (ks.take len).length = len := by simp; omega
    unfold maxLen at hm
    refine ⟨some a, len, cap, ks.take len, rfl, hlz, ⟨fun e => by simp at e, fun k hk => ?_⟩, by omega, fun z hzm => ?_⟩
    · obtain ⟨b, off, spot⟩ := a
      have hspot : spot = none := by simpa [Addr.add] using World.cell?_spot (hcell 0 (by omega))
      subst hspot
      refine ⟨b, off, rfl, ?_⟩
      have hc := hcell k (by omega)
      rw [Go.WideShapes.add_plain] at hc
      rw [hc]
      simp [gets, List.getD_eq_getElem?_getD, show k < len by omega]
    · have := hwz z (List.mem_of_mem_take hzm)
      unfold maxLen at this
      omega
end Go.Proofs.YtdkccihoecpcaaaGreatFmt
