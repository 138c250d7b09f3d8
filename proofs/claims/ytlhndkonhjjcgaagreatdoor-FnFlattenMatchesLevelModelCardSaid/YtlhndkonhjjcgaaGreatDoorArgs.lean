/- Arguments that are slices of integers, opened. Conditions: none. -/
import Derived.Test.YtlhndkonhjjcgaaGreatDoorFn
import Derived.OpenShut
import Derived.Lib.SliceRun
namespace Go.Proofs.YtlhndkonhjjcgaaGreatDoor
open Go.RowKit Go
theorem cellsInt : Tryz.prog.cellsOf 3 = 1 := by kernel_rfl
theorem cellsU8 : Tryz.prog.cellsOf 5 = 1 := by kernel_rfl
set_option maxRecDepth 100000 in
theorem arg_opened {k : IntKind} {t e : TypeId} (hu : Tryz.prog.underlying t = some (.slice e)) (he : Tryz.prog.underlying e = some (.int k)) (hc : Tryz.prog.cellsOf e = 1) {H : Type} {enc : TypeId × Value → H} {W : World} {base : Nat} {v : Value} {d : DataW H} {ps : List MemPlace} (hval : Value.okWide Tryz.prog W .any base t v)
    (h : DataW.Trod enc Tryz.prog W 0 (fun _ => true) true t v d ps) :
    ∃ (ao : Option Addr) (len cap : Nat) (zs : List Int), v = .slice ao len cap ∧ zs.length = len ∧ ArgIn k W ao cap zs ∧ zs.length ≤ 9223372036854775807 ∧ (∀ z ∈ zs, (Lit.int k z).wf = true) := by
  obtain ⟨a0, len, cap, rfl⟩ := Go.WideShapes.okWide_slice hu hval
  obtain ⟨fuel, hf⟩ := h
  rcases Go.ChangeShapes.open_ints hu he hc hf with ⟨hcs, hx⟩ | ⟨a, len', cap', zs, hcs, _, hl, hm, hz, hx, hcell, hwz⟩
  · simp only [Value.cells, List.cons.injEq, Value.slice.injEq, and_true] at hcs
    obtain ⟨rfl, rfl, rfl⟩ := hcs
    exact ⟨none, 0, 0, [], rfl, rfl, ⟨fun _ => ⟨rfl, rfl⟩, fun k hk => by simp at hk⟩, by simp, fun z hz => by simp at hz⟩
  · simp only [Value.cells, List.cons.injEq, Value.slice.injEq, and_true] at hcs
    obtain ⟨rfl, rfl, rfl⟩ := hcs
    rw [if_pos rfl] at hz
    have hlz : (zs.take len).length = len := by simp; omega
    unfold maxLen at hm
    refine ⟨some a, len, cap, zs.take len, rfl, hlz, ⟨fun e => by simp at e, fun j hj => ?_⟩, by omega, fun z hzm => hwz z (List.mem_of_mem_take hzm)⟩
    obtain ⟨b, off, rfl, hc⟩ := ints_at hcell (by omega)
    refine ⟨b, off, rfl, ?_⟩
    rw [hc j (by omega)]
    simp [List.getD_eq_getElem?_getD, List.getElem?_eq_getElem (show j < zs.length by omega)]
theorem u8_nonneg {zs : List Int} (h : ∀ z ∈ zs, (Lit.int .u8 z).wf = true) : ∀ z ∈ zs, 0 ≤ z := fun z hz => by
  have := h z hz
  simp [Lit.wf, IntKind.min, IntKind.max, IntKind.signed, IntKind.bits] at this
  omega
end Go.Proofs.YtlhndkonhjjcgaaGreatDoor
