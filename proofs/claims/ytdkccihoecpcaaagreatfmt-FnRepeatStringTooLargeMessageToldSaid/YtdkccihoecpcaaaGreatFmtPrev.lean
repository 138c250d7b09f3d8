/- The preview of null, a bool or an int. Conditions: none. -/
import Derived.Test.YtdkccihoecpcaaaGreatFmtEnc
import Derived.Defers
import Derived.Recover
import Derived.Laws.IdiomStrings
namespace Go.Proofs.YtdkccihoecpcaaaGreatFmt
open Go.RowKit Go
set_option maxRecDepth 100000 in
theorem lim_bytes (w : World) (lb bb : Nat) (l : List UInt8) (h : Lim w lb bb l) :
    Calls Tryz.prog 61 #[.pointer (some ⟨lb, 0, none⟩)] w (fun e w' => e = .returned (.slice (some ⟨bb, 0, none⟩) l.length 32) ∧ ∃ n, w' = w.drewN n) := by
  have h0 := h.h0
  have h1 := h.h1
  have hlt := h.lt
  have hsl : ∀ W, (Instr.slice 29 (.slice (some ⟨bb, 0, none⟩) 32 32) none (some (.int .i64 (l.length : Int))) none).run Tryz.prog W = .ok (.slice (some ⟨bb, 0, none⟩) l.length 32) W := fun W => by
    rw [run_slice_h (P := Tryz.prog) W 29 (some ⟨bb, 0, none⟩) 32 32 Tryz.underlying29 .i64 (l.length : Int) (by omega) (by omega)]
    have hsz : ∀ W, (sizeOf (Tryz.prog.elem 29)).run Tryz.prog W = .ok 1 W := fun W => by kernel_rfl
    rw [hsz]
    simp [sliced, Result.andThen, Addr.add]
  clear h
  generalize l.length = k at *
  go_enter Tryz.func61, Tryz.ntmps61
  go_wp2
  go_region
  all_goals go_wp2
  all_goals go_ret
  all_goals exact ⟨rfl, 1, rfl⟩
/-- The deferred closure, in a frame that returns: it lays the writer's bytes in the named result. -/
theorem catch_idle (p q : Addr) (lb bb : Nat) (l : List UInt8) (w : World) (hq : w.cell? q = some (.pointer (some ⟨lb, 0, none⟩))) (hp : w.cell? p = some (.slice none 0 0)) (fp : w.frozen? p = false) (h : Lim w lb bb l) :
    CallsD Tryz.prog 60 #[.pointer (some q), .pointer (some p)] .returning w fun e u' w' => e = .returned (.tuple #[]) ∧ u' = .returning ∧ ∃ n, w' = (w.setCell p (.slice (some ⟨bb, 0, none⟩) l.length 32)).drewN n := by
  have hby := lim_bytes w lb bb l h
  refine callsD_of_wpS Tryz.func60 rfl fun c₀ cs hu => ?_
  apply wpS_seq
  apply wpS_region
  simp [wpOpsS, go_sem, recoverD, hu, Tryz.ntmps60, Exit.thenS]
  apply wpS_region
  simp [wpOpsS, go_sem, hq]
  refine hby.mono ?_
  rintro e w' ⟨rfl, n, rfl⟩
  simp [go_sem, hp, fp, bodyPostS, results, Tryz.results60 ]
  exact ⟨.returning, by cases c₀; simp_all, rfl, n, rfl⟩
theorem heap_new_at (w : World) (cs : Array Value) (t : TypeId) {b : Nat} (h : b = w.heap.size) : (w.alloc (.cells cs t)).heap[b]? = some (.cells cs t (0, 0)) := by
  subst h
  exact heap_alloc_new w _
set_option maxRecDepth 100000 in
set_option maxHeartbeats 1600000 in
theorem jlm (v : Value) (l : List UInt8) (w : World)
    (henc : ∀ (w0 : World) (eb lb bb : Nat) (cur : Array Value), w.heap.size ≤ eb → w.heap.size ≤ lb → w.heap.size ≤ bb → eb ≠ lb → eb ≠ bb → Touch [] w w0 → Enc w0 eb lb cur → Lim w0 lb bb [] →
      Calls Tryz.prog 33 #[.pointer (some ⟨eb, 0, none⟩), v] w0 (Wrote [lb, bb, eb] w0 lb bb l (.tuple #[]))) :
    Calls Tryz.prog 50 #[v, .int .i64 32] w fun e w' => ∃ bb, e = .returned (.slice (some ⟨bb, 0, none⟩) l.length 32) ∧ w'.heap[bb]? = some (.cells (limRow l) 5 (0, 0)) ∧ l.length < 32 ∧ Below w.heap.size w w' := by
  have hmf : ∀ (fn : Fn) (first cap : Array Value) (w : World), (Instr.makeFunc fn first cap).run Tryz.prog w = .ok (.func fn first cap) w := fun _ _ _ _ => rfl
  have hmk : ∀ W, (Instr.makeSlice 29 (.int .i64 32) (.int .i64 32)).run Tryz.prog W = .ok (.slice (some ⟨W.heap.size, 0, none⟩) 32 32) (W.alloc (.cells (limRow []) 5)) := fun _ => by kernel_rfl
  go_enter_defers Tryz.func50, Tryz.ntmps50
  go_wp2_with fail
  have hzs : (Tryz.zeroCells66).size = 65 := by kernel_rfl
  refine (henc _ (w.heap.size + 1 + 1 + 1 + 1) (w.heap.size + 1 + 1) (w.heap.size + 1) (Tryz.zeroCells66.setIfInBounds 0 (.iface 112 (.pointer (some ⟨w.heap.size + 1 + 1, 0, none⟩)))) (by omega) (by omega) (by omega) (by omega) (by omega) ?_ ⟨?_, ?_, ?_⟩ ⟨?_, ?_, by omega, by simp⟩).mono ?_
  · exact (((((Touch.refl [] w).alloc _).alloc _).alloc _).alloc _).alloc _
  · exact heap_new_at _ _ _ (by simp <;> omega)
  · simp [hzs]
  · simp [hzs]
  · rw [Below.heap_alloc _ _ _ (by simp <;> omega), Below.heap_alloc _ _ _ (by simp <;> omega)]
    exact heap_new_at _ _ _ (by simp <;> omega)
  · rw [Below.heap_alloc _ _ _ (by simp <;> omega), Below.heap_alloc _ _ _ (by simp <;> omega), Below.heap_alloc _ _ _ (by simp <;> omega)]
    exact heap_new_at _ _ _ (by simp <;> omega)
  rintro e w' ⟨rfl, hL, hT⟩
  have HL := Lib.hid hL
  have k1 : w'.cell? ⟨w.heap.size, 0, none⟩ = some (.slice none 0 0) := by
    rw [hT.cell (p := ⟨w.heap.size, 0, none⟩) (by simp <;> omega) (by simp <;> omega)]
    simp [go_sem]
  have k2 : w'.cell? ⟨w.heap.size + 1 + 1 + 1, 0, none⟩ = some (.pointer (some ⟨w.heap.size + 1 + 1, 0, none⟩)) := by
    rw [hT.cell (p := ⟨w.heap.size + 1 + 1 + 1, 0, none⟩) (by simp <;> omega) (by simp <;> omega)]
    simp [go_sem]
  have k3 : w'.frozen? ⟨w.heap.size, 0, none⟩ = false := by
    rw [World.frozen?_of_block (a := ⟨w.heap.size, 0, none⟩) (hT.block w.heap.size (by simp <;> omega) (by simp <;> omega))]
    simp [go_sem]
  have HB := Lib.hid (show Below w.heap.size w w' from (((((((Below.refl _ _).alloc (Nat.le_refl _) _).alloc (by simp <;> omega) _).alloc (by simp <;> omega) _).alloc (by simp <;> omega) _).alloc (by simp <;> omega) _).trans (hT.below (by simp <;> omega) (by simp <;> omega))))
  clear hT hL
  go_wp2
  refine leaves_cons (f := 60) (args := #[.pointer (some ⟨w.heap.size + 1 + 1 + 1, 0, none⟩), .pointer (some ⟨w.heap.size, 0, none⟩)]) (by simp) (by simp [go_sem]) ?_
  refine (catch_idle ⟨w.heap.size, 0, none⟩ ⟨w.heap.size + 1 + 1 + 1, 0, none⟩ (w.heap.size + 1 + 1) (w.heap.size + 1) l _ k2 k1 k3 HL.out).mono ?_
  rintro e u' w'' ⟨rfl, rfl, n, rfl⟩
  have hrow : ((w'.setCell ⟨w.heap.size, 0, none⟩ (.slice (some ⟨w.heap.size + 1, 0, none⟩) l.length 32)).drewN n).heap[w.heap.size + 1]? = some (.cells (limRow l) 5 (0, 0)) := (Below.heap_setCell w' ⟨w.heap.size, 0, none⟩ _ _ (by simp)).trans HL.out.row
  have hbel : Below w.heap.size w ((w'.setCell ⟨w.heap.size, 0, none⟩ (.slice (some ⟨w.heap.size + 1, 0, none⟩) l.length 32)).drewN n) := (HB.out.setCell (p := ⟨w.heap.size, 0, none⟩) (Nat.le_refl _) _).trans ⟨rfl, rfl, rfl, Nat.le_refl _, fun _ _ => rfl⟩
  simp [Leaves, settle, results, Tryz.results50, go_sem, k1]
  exact ⟨hrow, HL.out.lt, hbel⟩
end Go.Proofs.YtdkccihoecpcaaaGreatFmt
