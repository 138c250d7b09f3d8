/- The limited text of a value, whole or cut by a panic that is caught. Conditions: none. -/
import Derived.Test.YtdkccihoecpcaaaGreatFmtBldL
namespace Go.Proofs.YtdkccihoecpcaaaGreatFmt
open Go.RowKit Go
/-- What the encoder writes at v: T, or its first 32 bytes. -/
def EncOkL (w : World) (v : Value) (T : List UInt8) : Prop := ∀ (w0 : World) (b eb : Nat), Below w.heap.size w w0 → StL w.heap.size b eb [] w0 →
  Calls Tryz.prog 33 #[.pointer (some ⟨eb, 0, none⟩), v] w0 (WoD w.heap.size b eb T T (.tuple #[]) w0)
set_option maxRecDepth 100000 in
theorem lim_bytesD (w : World) (lb bb : Nat) (l : List UInt8) (h : LimD w lb bb l) :
    Calls Tryz.prog 61 #[.pointer (some ⟨lb, 0, none⟩)] w (fun e w' => e = .returned (.slice (some ⟨bb, 0, none⟩) 32 32) ∧ ∃ n, w' = w.drewN n) := by
  have h0 : w.cell? ⟨lb, 0, none⟩ = some (.slice (some ⟨bb, 0, none⟩) 32 32) := by simp [World.cell?, h.head]
  have h1 : w.cell? ⟨lb, 1, none⟩ = some (.int .i64 32) := by simp [World.cell?, h.head]
  have hsl : ∀ W, (Instr.slice 29 (.slice (some ⟨bb, 0, none⟩) 32 32) none (some (.int .i64 32)) none).run Tryz.prog W = .ok (.slice (some ⟨bb, 0, none⟩) 32 32) W := fun W => by
    rw [run_slice_h (P := Tryz.prog) W 29 (some ⟨bb, 0, none⟩) 32 32 Tryz.underlying29 .i64 (32 : Int) (by omega) (by omega)]
    have hsz : ∀ W, (sizeOf (Tryz.prog.elem 29)).run Tryz.prog W = .ok 1 W := fun W => by kernel_rfl
    rw [hsz]
    simp [sliced, Result.andThen, Addr.add]
  clear h
  go_enter Tryz.func61, Tryz.ntmps61
  go_wp2
  go_region
  all_goals go_wp2
  all_goals go_ret
  all_goals exact ⟨rfl, 1, rfl⟩
/-- The deferred closure, in a frame that panics: it recovers, and lays the writer's bytes in the named result. -/
theorem catch_panicking (p q : Addr) (lb bb : Nat) (l : List UInt8) (pv : Value) (u : TypeId) (older : List PanicEntry) (w : World) (hq : w.cell? q = some (.pointer (some ⟨lb, 0, none⟩))) (hp : w.cell? p = some (.slice none 0 0)) (fp : w.frozen? p = false) (h : LimD w lb bb l) :
    CallsD Tryz.prog 60 #[.pointer (some q), .pointer (some p)] (.panicking ({ v := .iface u pv, recovered := false } :: older)) w fun e u' w' => e = .returned (.tuple #[]) ∧ u' = .panicking ({ v := .iface u pv, recovered := true } :: older) ∧ ∃ n, w' = (w.setCell p (.slice (some ⟨bb, 0, none⟩) 32 32)).drewN n := by
  have hby := lim_bytesD w lb bb l h
  refine callsD_of_wpS Tryz.func60 rfl fun c₀ cs hu => ?_
  apply wpS_seq
  apply wpS_region
  simp [wpOpsS, go_sem, recoverD, hu, Tryz.ntmps60, Exit.thenS]
  apply wpS_region
  simp [wpOpsS, go_sem, hq]
  refine hby.mono ?_
  rintro e w' ⟨rfl, n, rfl⟩
  simp [go_sem, hp, fp, bodyPostS, results, Tryz.results60 ]
  exact ⟨n, rfl⟩
theorem limRow_no (l : List UInt8) (v : Value) (k : Nat) (h : (limRow l)[k]? = some v) : v = .slice none 0 0 → False := by
  rintro rfl
  simp only [limRow, List.getElem?_toArray] at h
  have hm := List.mem_of_getElem? h
  rw [List.mem_append] at hm
  rcases hm with hm | hm
  · simp [Lib.byteCells] at hm
  · have := List.eq_of_mem_replicate hm
    cases this
set_option maxRecDepth 100000 in
set_option maxHeartbeats 3200000 in
theorem jlmL0 (v : Value) (T L : List UInt8) (n : Nat) (hTL : T.take 32 = L) (hn : L.length = n) (w : World) (henc : EncOkL w v T) :
    Calls Tryz.prog 50 #[v, .int .i64 32] w fun e w' => ∃ bb, w.heap.size ≤ bb ∧ e = .returned (.slice (some ⟨bb, 0, none⟩) n 32) ∧ w'.heap[bb]? = some (.cells (limRow L) 5 (0, 0)) ∧ Below w.heap.size w w' := by
  have HTL := Lib.hid hTL
  have HN := Lib.hid hn
  clear hTL hn
  have hmf : ∀ (fn : Fn) (first cap : Array Value) (w : World), (Instr.makeFunc fn first cap).run Tryz.prog w = .ok (.func fn first cap) w := fun _ _ _ _ => rfl
  have hmk : ∀ W, (Instr.makeSlice 29 (.int .i64 32) (.int .i64 32)).run Tryz.prog W = .ok (.slice (some ⟨W.heap.size, 0, none⟩) 32 32) (W.alloc (.cells (limRow []) 5)) := fun _ => by kernel_rfl
  have HE := Lib.hid henc
  clear henc
  go_enter_defers Tryz.func50, Tryz.ntmps50
  go_wp2_with fail
  have hzs : (Tryz.zeroCells66).size = 65 := by kernel_rfl
  refine (HE.out _ (w.heap.size + 1 + 1) (w.heap.size + 1 + 1 + 1 + 1) ?_ ⟨⟨by omega, w.heap.size + 1, by omega, ⟨?_, ?_, by omega, by simp⟩⟩, ⟨Tryz.zeroCells66.setIfInBounds 0 (.iface 112 (.pointer (some ⟨w.heap.size + 1 + 1, 0, none⟩))), ?_, ?_, ?_⟩, by omega, by simp <;> omega⟩).mono ?_
  · exact ((((((Below.refl _ _).alloc (Nat.le_refl _) _).alloc (by simp <;> omega) _).alloc (by simp <;> omega) _).alloc (by simp <;> omega) _).alloc (by simp <;> omega) _)
  · rw [Below.heap_alloc _ _ _ (by simp <;> omega), Below.heap_alloc _ _ _ (by simp <;> omega)]
    exact heap_new_at _ _ _ (by simp <;> omega)
  · rw [Below.heap_alloc _ _ _ (by simp <;> omega), Below.heap_alloc _ _ _ (by simp <;> omega), Below.heap_alloc _ _ _ (by simp <;> omega)]
    exact heap_new_at _ _ _ (by simp <;> omega)
  · exact heap_new_at _ _ _ (by simp <;> omega)
  · simp [hzs]
  · simp [hzs]
  intro e w' hend
  have hF := wod_frame hend
  have k1 : w'.heap[w.heap.size]? = some (.cells #[.slice none 0 0] 29 (0, 0)) := by
    refine hF.oth _ _ ?_ (by omega) (by omega) (fun c fz e => by simp only [Obj.cells.injEq] at e; revert e; simp <;> decide)
    rw [Below.heap_alloc _ _ _ (by simp <;> omega), Below.heap_alloc _ _ _ (by simp <;> omega), Below.heap_alloc _ _ _ (by simp <;> omega), Below.heap_alloc _ _ _ (by simp <;> omega)]
    exact heap_new_at _ _ _ rfl
  have k2 : w'.heap[w.heap.size + 1 + 1 + 1]? = some (.cells #[.pointer (some ⟨w.heap.size + 1 + 1, 0, none⟩)] 112 (0, 0)) := by
    refine hF.oth _ _ ?_ (by omega) (by omega) (fun c fz e => by simp only [Obj.cells.injEq] at e; revert e; simp <;> decide)
    rw [Below.heap_alloc _ _ _ (by simp <;> omega)]
    exact heap_new_at _ _ _ (by simp <;> omega)
  have HB := Lib.hid (show Below w.heap.size w w' from ((((((Below.refl _ _).alloc (Nat.le_refl _) _).alloc (by simp <;> omega) _).alloc (by simp <;> omega) _).alloc (by simp <;> omega) _).alloc (by simp <;> omega) _).trans hF.below)
  have c1 : w'.cell? ⟨w.heap.size, 0, none⟩ = some (.slice none 0 0) := by simp [World.cell?, k1]
  have c2 : w'.cell? ⟨w.heap.size + 1 + 1 + 1, 0, none⟩ = some (.pointer (some ⟨w.heap.size + 1 + 1, 0, none⟩)) := by simp [World.cell?, k2]
  have c3 : w'.frozen? ⟨w.heap.size, 0, none⟩ = false := by simp [World.frozen?, k1]
  clear hF k1 k2
  rcases hend with ⟨rfl, hS, _⟩ | ⟨rfl, h32, ⟨bb, hbb, hD⟩, _⟩
  · obtain ⟨_, bb, hbb, hl⟩ := hS.bld
    have ht : T = L := by rw [← HTL.out, List.take_of_length_le (Nat.le_of_lt hl.lt)]
    rw [ht] at hl
    have HL := Lib.hid hl
    have hn := HN.out
    clear ht
    have hbne : bb ≠ w.heap.size := fun e => by
      have h1 := hl.row
      rw [e] at h1
      have h2 : w'.cell? ⟨w.heap.size, 0, none⟩ = (limRow L)[0]? := by simp [World.cell?, h1]
      rw [c1] at h2
      have h3 : (limRow L)[0]? = some (.slice none 0 0) := h2.symm
      exact limRow_no L _ _ h3 rfl
    clear hl hS
    go_wp2
    refine leaves_cons (f := 60) (args := #[.pointer (some ⟨w.heap.size + 1 + 1 + 1, 0, none⟩), .pointer (some ⟨w.heap.size, 0, none⟩)]) (by simp) (by simp [go_sem]) ?_
    refine (catch_idle ⟨w.heap.size, 0, none⟩ ⟨w.heap.size + 1 + 1 + 1, 0, none⟩ (w.heap.size + 1 + 1) bb L _ c2 c1 c3 HL.out).mono ?_
    rw [hn]
    rintro e u' w'' ⟨rfl, rfl, q, rfl⟩
    have hrow : ((w'.setCell ⟨w.heap.size, 0, none⟩ (.slice (some ⟨bb, 0, none⟩) n 32)).drewN q).heap[bb]? = some (.cells (limRow L) 5 (0, 0)) := (Below.heap_setCell w' ⟨w.heap.size, 0, none⟩ _ _ hbne).trans HL.out.row
    have hbel : Below w.heap.size w ((w'.setCell ⟨w.heap.size, 0, none⟩ (.slice (some ⟨bb, 0, none⟩) n 32)).drewN q) := (HB.out.setCell (p := ⟨w.heap.size, 0, none⟩) (Nat.le_refl _) _).trans ⟨rfl, rfl, rfl, Nat.le_refl _, fun _ _ => rfl⟩
    simp [Leaves, settle, results, Tryz.results50, go_sem, c1]
    first | exact ⟨hbb, hrow, hbel⟩ | exact ⟨bb, hbb, rfl, hrow, hbel⟩ | exact ⟨bb, hbb, by simp, hrow, hbel⟩
  · rw [HTL.out] at hD
    have HL := Lib.hid hD
    have hlen : n = 32 := by rw [← HN.out]; exact hD.len
    have hbne : bb ≠ w.heap.size := fun e => by
      have h1 := hD.row
      rw [e] at h1
      have h2 : w'.cell? ⟨w.heap.size, 0, none⟩ = (limRow L)[0]? := by simp [World.cell?, h1]
      rw [c1] at h2
      exact limRow_no _ _ _ h2.symm rfl
    clear hD
    subst hlen
    go_wp2
    refine leaves_cons (f := 60) (args := #[.pointer (some ⟨w.heap.size + 1 + 1 + 1, 0, none⟩), .pointer (some ⟨w.heap.size, 0, none⟩)]) (by simp) (by simp [go_sem]) ?_
    refine (catch_panicking ⟨w.heap.size, 0, none⟩ ⟨w.heap.size + 1 + 1 + 1, 0, none⟩ (w.heap.size + 1 + 1) bb L _ _ _ _ c2 c1 c3 HL.out).mono ?_
    rintro e u' w'' ⟨rfl, rfl, q, rfl⟩
    have hrow : ((w'.setCell ⟨w.heap.size, 0, none⟩ (.slice (some ⟨bb, 0, none⟩) 32 32)).drewN q).heap[bb]? = some (.cells (limRow L) 5 (0, 0)) := (Below.heap_setCell w' ⟨w.heap.size, 0, none⟩ _ _ hbne).trans HL.out.row
    have hbel : Below w.heap.size w ((w'.setCell ⟨w.heap.size, 0, none⟩ (.slice (some ⟨bb, 0, none⟩) 32 32)).drewN q) := (HB.out.setCell (p := ⟨w.heap.size, 0, none⟩) (Nat.le_refl _) _).trans ⟨rfl, rfl, rfl, Nat.le_refl _, fun _ _ => rfl⟩
    simp [Leaves, settle, results, Tryz.results50, go_sem, c1]
    first | exact ⟨hbb, hrow, hbel⟩ | exact ⟨bb, hbb, rfl, hrow, hbel⟩ | exact ⟨bb, hbb, by simp, hrow, hbel⟩
theorem jlmL (v : Value) (T : List UInt8) (w : World) (henc : EncOkL w v T) :
    Calls Tryz.prog 50 #[v, .int .i64 32] w fun e w' => ∃ bb, w.heap.size ≤ bb ∧ e = .returned (.slice (some ⟨bb, 0, none⟩) (T.take 32).length 32) ∧ w'.heap[bb]? = some (.cells (limRow (T.take 32)) 5 (0, 0)) ∧ Below w.heap.size w w' :=
  jlmL0 v T _ _ rfl rfl w henc
end Go.Proofs.YtdkccihoecpcaaaGreatFmt
