/- From the row's list of laid variables to the table of 128-bit powers of ten. Conditions: none. -/
import Derived.Test.YtdkccihoecpcaaaGreatFmtPre
import Derived.Test.YtdkccihoecpcaaaGreatFmtTab
import Derived.Lib.LaidU8
namespace Go.Proofs.YtdkccihoecpcaaaGreatFmt
open Go.RowKit Go
theorem p10_types : (Tryz.prog.globalNamed "internal/strconv.pow10Tab" = some 11 ∧ (Tryz.prog.globals[(11 : Nat)]?).map (·.type) = some 252) ∧ Tryz.prog.cellsOf 251 = 2 ∧ Tryz.prog.cellsOf 54 = 1 := ⟨⟨by kernel_rfl, by kernel_rfl⟩, by kernel_rfl, by kernel_rfl⟩
theorem p10_of_laid {laid : List (String × DataW Unit)} {W : World} (h : laidMetH Tryz.prog laid W) (hm : ("internal/strconv.pow10Tab", Pinned.pow10Tab) ∈ laid) : P10 W.heap.size W := by
  obtain ⟨g, t, cs, fuel, p, hg, ht, hv, hd⟩ := laidMetH_mem h _ _ hm rfl
  obtain ⟨⟨k1, k2⟩, k3, k4⟩ := p10_types
  obtain rfl := Option.some.inj (k1.symm.trans hg)
  obtain rfl := Option.some.inj (k2.symm.trans ht)
  have hcell : ∀ i, i < 696 → W.cell? ⟨11, i * 2, none⟩ = some (.int .u64 (tHi i : Int)) ∧ W.cell? ⟨11, i * 2 + 1, none⟩ = some (.int .u64 (tLo i : Int)) := by
    intro i hi
    obtain ⟨fuel', d, q, hdi, he⟩ := Lib.array_elem Tryz.underlying252 hd i hi
    rw [List.getElem?_map, Option.map_eq_some_iff] at hdi
    obtain ⟨x, hx, rfl⟩ := hdi
    rw [k3] at he
    have hcs := Lib.ints_of_struct (zs := [(x.1 : Int), (x.2 : Int)]) Tryz.underlying251 (fun j f hj => by
      match j, hj with
      | 0, hj => simp at hj; subst hj; exact ⟨Tryz.underlying54, rfl, k4⟩
      | 1, hj => simp at hj; subst hj; exact ⟨Tryz.underlying54, rfl, k4⟩
      | j + 2, hj => simp at hj) (by rw [k3]; rfl) he
    have e0 := congrArg (·[0]?) hcs
    have e1 := congrArg (·[1]?) hcs
    simp only [List.getElem?_take, List.getElem?_drop] at e0 e1
    have eh : tHi i = x.1 := by unfold tHi; rw [List.getD_eq_getElem?_getD, hx]; rfl
    have el : tLo i = x.2 := by unfold tLo; rw [List.getD_eq_getElem?_getD, hx]; rfl
    constructor
    · rw [World.var?_cell hg hv (i * 2), ← Array.getElem?_toList, eh]
      simpa using e0
    · rw [World.var?_cell hg hv (i * 2 + 1), ← Array.getElem?_toList, el]
      simpa using e1
  exact ⟨hcell, World.block_lt_of_cell? _ _ (hcell 0 (by omega)).1, Nat.le_refl _⟩
end Go.Proofs.YtdkccihoecpcaaaGreatFmt
