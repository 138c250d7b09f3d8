/- From the row's list of laid variables to the table of powers of ten. Conditions: none. -/
import Derived.Test.YtdkccihoecpcaaaGreatFmtAppInt
import Derived.Lib.LaidTab
namespace Go.Proofs.YtdkccihoecpcaaaGreatFmt
open Go.RowKit Go
theorem laidVars_of_mem {P : Program} {w : World} : ∀ (laid : List (String × DataW Unit)) (ps : List MemPlace), DataW.LaidVars P w laid ps → ∀ n d, (n, d) ∈ laid →
    ∃ g t cs fuel p, P.globalNamed n = some g ∧ (P.globals[g]?).map (·.type) = some t ∧ w.var? P n = some cs ∧ DataW.trod (fun _ => ()) P w 0 (fun _ => true) false fuel t cs.toList = some (d, p)
  | [], _, _, n, d, hm => by cases hm
  | (n', d') :: r, ps, h, n, d, hm => by
    obtain ⟨g, t, cs, fuel, p, q, h1, h2, h3, h4, h5, _⟩ := h
    rcases List.mem_cons.1 hm with e | hm
    · cases e
      exact ⟨g, t, cs, fuel, p, h1, h2, h3, h4⟩
    · exact laidVars_of_mem r q h5 n d hm
theorem laidMetH_mem {P : Program} {laid : List (String × DataW Unit)} {w : World} (h : laidMetH P laid w) (n : String) (d : DataW Unit) (hm : (n, d) ∈ laid) (hn : d.handleName?.isNone = true) :
    ∃ g t cs fuel p, P.globalNamed n = some g ∧ (P.globals[g]?).map (·.type) = some t ∧ w.var? P n = some cs ∧ DataW.trod (fun _ => ()) P w 0 (fun _ => true) false fuel t cs.toList = some (d, p) := by
  unfold laidMetH at h
  split at h
  · obtain ⟨ps, hv, _⟩ := h
    exact laidVars_of_mem _ ps hv n d hm
  · obtain ⟨⟨ps, hv, _⟩, _⟩ := h
    exact laidVars_of_mem _ ps hv n d (List.mem_filter.2 ⟨hm, hn⟩)
theorem tab_of_laid {laid : List (String × DataW Unit)} {W : World} (h : laidMetH Tryz.prog laid W) (hm : ("internal/strconv.uint64pow10", Lib.tabData .u64 Lib.pow10Tab) ∈ laid) : Tab W.heap.size W := by
  obtain ⟨g, t, cs, fuel, p, hg, ht, hv, hd⟩ := laidMetH_mem h _ _ hm rfl
  have hT : (Tryz.prog.globalNamed "internal/strconv.uint64pow10").bind (fun g => (Tryz.prog.globals[g]?).map (·.type)) = some 181 := by kernel_rfl
  rw [hg] at hT
  simp only [Option.bind_some] at hT
  obtain rfl := Option.some.inj (hT.symm.trans ht)
  refine ⟨?_, g, hg, ?_, Nat.le_refl _⟩
  · unfold Lib.TabIs
    rw [hv, ← Lib.cells_of_tab (n := 20) (e := 54) (by kernel_rfl) (by kernel_rfl) (by kernel_rfl) (by kernel_rfl) hd]
  · unfold World.var? at hv
    rw [hg] at hv
    simp only [Option.bind_some] at hv
    rcases Nat.lt_or_ge g W.heap.size with h1 | h1
    · exact h1
    · rw [Array.getElem?_eq_none h1] at hv
      cases hv
end Go.Proofs.YtdkccihoecpcaaaGreatFmt
