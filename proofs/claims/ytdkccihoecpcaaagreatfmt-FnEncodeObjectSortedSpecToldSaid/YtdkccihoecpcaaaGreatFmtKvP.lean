/- The row of pairs, filled from its head; what a loop over the map keeps. Conditions: none. -/
import Derived.Test.YtdkccihoecpcaaaGreatFmtObjP
import Derived.Test.YtdkccihoecpcaaaGreatFmtMapW
import Derived.Test.YtdkccihoecpcaaaGreatFmtSortO
import Derived.Test.YtdkccihoecpcaaaGreatFmtBldS
import Derived.Maps.RangeWalk
namespace Go.Proofs.YtdkccihoecpcaaaGreatFmt
open Go.RowKit Go.Maps Go.WideMaps Go
/-- The cell at place j, where the pairs L lie at the head and the rest is zero. -/
def kvAt (L : List (ByteArray × Nat)) (j : Nat) : Value :=
  if j / 2 < L.length then (if j % 2 = 0 then .string (nth L (j / 2)).1 else .iface 3 (.int .i64 ((nth L (j / 2)).2 : Int))) else (if j % 2 = 0 then .string ByteArray.empty else .nilIface)
def kvRow (L : List (ByteArray × Nat)) (N : Nat) : Array Value := ((List.range (N * 2)).map (kvAt L)).toArray
theorem kvRow_size (L : List (ByteArray × Nat)) (N : Nat) : (kvRow L N).size = N * 2 := by simp [kvRow]
theorem kvRow_get (L : List (ByteArray × Nat)) (N j : Nat) (h : j < N * 2) : (kvRow L N)[j]? = some (kvAt L j) := by simp [kvRow, h]
theorem kvRow_at (L : List (ByteArray × Nat)) (N j : Nat) (h : j < (kvRow L N).size) : (kvRow L N)[j]'h = kvAt L j := by simp [kvRow]
theorem kvRow_zero (N : Nat) : madeCells #[Value.string ByteArray.empty, Value.nilIface] (N * 2) = kvRow [] N := by
  apply Array.ext
  · simp [madeCells, kvRow]
  · intro i h1 h2
    have h3 : i % 2 = 0 ∨ i % 2 = 1 := by omega
    simp only [kvRow, List.getElem_toArray, List.getElem_map, List.getElem_range, kvAt, List.length_nil, Nat.not_lt_zero, if_false, madeCells, Array.getElem_map, Array.getElem_range]
    rcases h3 with h3 | h3 <;> simp [h3]
theorem nth_app_old (L : List (ByteArray × Nat)) (p : ByteArray × Nat) (k : Nat) (h : k < L.length) : nth (L ++ [p]) k = nth L k := by
  unfold nth
  rw [List.getD_eq_getElem?_getD, List.getD_eq_getElem?_getD, List.getElem?_append_left h]
theorem nth_app_new (L : List (ByteArray × Nat)) (p : ByteArray × Nat) : nth (L ++ [p]) L.length = p := by
  unfold nth
  rw [List.getD_eq_getElem?_getD, List.getElem?_append_right (Nat.le_refl _)]
  simp
theorem kvRow_set (L : List (ByteArray × Nat)) (p : ByteArray × Nat) (N i : Nat) (hi : i = L.length) (hN : i < N) : ((kvRow L N).setIfInBounds (i * 2) (.string p.1)).setIfInBounds (i * 2 + 1) (.iface 3 (.int .i64 (p.2 : Int))) = kvRow (L ++ [p]) N := by
  subst hi
  apply Array.ext
  · simp [kvRow]
  · intro j h1 h2
    have hj : j < N * 2 := by rw [kvRow_size] at h2; exact h2
    rw [kvRow_at]
    by_cases e1 : L.length * 2 + 1 = j
    · subst e1
      rw [Array.getElem_setIfInBounds_self]
      unfold kvAt
      rw [show (L.length * 2 + 1) / 2 = L.length from by omega, show (L.length * 2 + 1) % 2 = 1 from by omega, if_pos (by simp), if_neg (by omega), nth_app_new]
    · rw [Array.getElem_setIfInBounds_ne (by rw [Array.size_setIfInBounds, kvRow_size]; exact hj) e1]
      by_cases e2 : L.length * 2 = j
      · subst e2
        rw [Array.getElem_setIfInBounds_self]
        unfold kvAt
        rw [show (L.length * 2) / 2 = L.length from by omega, show (L.length * 2) % 2 = 0 from by omega, if_pos (by simp), if_pos rfl, nth_app_new]
      · rw [Array.getElem_setIfInBounds_ne (by rw [kvRow_size]; exact hj) e2, kvRow_at]
        unfold kvAt
        by_cases h3 : j / 2 < L.length
        · have h4 : j / 2 < (L ++ [p]).length := by rw [List.length_append, List.length_singleton]; omega
          rw [if_pos h3, if_pos h4, nth_app_old _ _ _ h3]
        · have h4 : ¬ j / 2 < (L ++ [p]).length := by rw [List.length_append, List.length_singleton]; omega
          rw [if_neg h3, if_neg h4]
theorem kv_holds (L : List (ByteArray × Nat)) (w : World) (R : Nat) (h : w.heap[R]? = some (.cells (kvRow L L.length) 109 (0, 0))) : Go.Sort.HoldsK encKV 2 w R 0 L.toArray := by
  intro j hj
  have hj2 : j < L.length * 2 := by simpa using hj
  refine ⟨?_, by simp [World.frozen?, h]⟩
  rw [Nat.zero_add, Lib.cell_of_heap h, kvRow_get _ _ _ hj2, Go.Sort.get_flatK _ _ _ _ (by simpa using hj2)]
  have hL : j / 2 < L.length := by omega
  have e : L.toArray[j / 2]! = nth L (j / 2) := by
    unfold nth
    rw [getElem!_pos L.toArray (j / 2) (by simpa using hL), List.getD_eq_getElem?_getD, List.getElem?_eq_getElem hL]
    simp
  rw [e]
  unfold kvAt encKV
  have h3 : j % 2 = 0 ∨ j % 2 = 1 := by omega
  rw [if_pos hL]
  rcases h3 with h3 | h3 <;> simp [h3]
/-- Other blocks of the call's own have changed. -/
theorem fr_other {B b eb : Nat} {S : List Nat} {w0 w w' : World} (hF : Fr B b eb w0 w) (ht : Touch S w w') (hB : ∀ k ∈ S, B ≤ k) (hS : ∀ k ∈ S, w0.heap.size ≤ k) (hBw : B ≤ w.heap.size) : Fr B b eb w0 w' :=
  ⟨hF.below.trans (ht.below hB hBw), fun k o hk h1 h2 h3 => (ht.block k (Nat.lt_of_lt_of_le (Lib.lt_of_heap hk) hF.below.size) (fun hm => by have := hS k hm; have := Lib.lt_of_heap hk; omega)).trans (hF.oth k o hk h1 h2 h3)⟩
theorem stS_other {B b eb : Nat} {l : List UInt8} {S : List Nat} {w w' : World} (h : StS B b eb l w) (ht : Touch S w w') (hS : ∀ k ∈ S, k ≠ b ∧ k ≠ eb ∧ ∀ c fz, w.heap[k]? ≠ some (.cells c 5 fz)) : StS B b eb l w' := by
  obtain ⟨cur, he⟩ := h.enc
  obtain ⟨cs, hh⟩ := bld_headS h.bld
  exact ⟨bld_carryS h.bld (ht.block b (Lib.lt_of_heap hh) (fun m => (hS b m).1 rfl)) (fun k c fz hk => ht.block k (Lib.lt_of_heap hk) (fun m => (hS k m).2.2 c fz hk)), ⟨cur, (ht.block eb (Lib.lt_of_heap he.row) (fun m => (hS eb m).2.1 rfl)).trans he.row, he.w0, he.size⟩, h.leb, Nat.le_trans h.lew ht.size⟩
/-- What stands behind so many rounds of the loop over the map. -/
structure Kv (B b eb R N : Nat) (l : List UInt8) (w0 : World) (L : List (ByteArray × Nat)) (w : World) : Prop where
  row : w.heap[R]? = some (.cells (kvRow L N) 109 (0, 0))
  box : w.heap[R + 1]? = some (.cells #[.slice (some ⟨R, 0, none⟩) N N] 107 (0, 0))
  st : StS B b eb l w
  fr : Fr B b eb w0 w
  b0 : b < w0.heap.size
  e0 : eb < w0.heap.size
  ge : w0.heap.size ≤ R
  le : B ≤ R
theorem touch_of_grown {w w' : World} {r : Nat} (h : w.grownBy w' (some r)) : Touch [r] w w' := ⟨h.os, h.tape, h.output, h.size, fun k hk hm => h.block k hk (fun e => hm (by cases e; simp))⟩
theorem touch_of_grown0 {w w' : World} (h : w.grownBy w' none) : Touch [] w w' := ⟨h.os, h.tape, h.output, h.size, fun k hk _ => h.block k hk (by simp)⟩
/-- The loop's iterator has moved on. -/
theorem Kv.iter {B b eb R N r : Nat} {l : List UInt8} {w0 w w' : World} {L : List (ByteArray × Nat)} (h : Kv B b eb R N l w0 L w) (ht : Touch [r] w w') (hr : R + 1 < r) (hi : ∀ c t fz, w.heap[r]? ≠ some (.cells c t fz)) : Kv B b eb R N l w0 L w' := by
  have hge := h.ge
  have hle := h.le
  have h0 := h.b0
  have h1 := h.e0
  refine ⟨(ht.block R (Lib.lt_of_heap h.row) (by simp; omega)).trans h.row, (ht.block (R + 1) (Lib.lt_of_heap h.box) (by simp; omega)).trans h.box, stS_other h.st ht (fun k hk => ?_), fr_other h.fr ht (fun k hk => ?_) (fun k hk => ?_) h.st.lew, h.b0, h.e0, h.ge, h.le⟩
  all_goals (simp only [List.mem_singleton] at hk; subst hk)
  · exact ⟨by omega, by omega, fun c fz => hi c _ fz⟩
  · omega
  · omega
/-- A pair has been laid in the row. -/
theorem Kv.put {B b eb R N : Nat} {l : List UInt8} {w0 w w' : World} {L L' : List (ByteArray × Nat)} (h : Kv B b eb R N l w0 L w) (ht : Touch [R] w w') (hrow : w'.heap[R]? = some (.cells (kvRow L' N) 109 (0, 0))) : Kv B b eb R N l w0 L' w' := by
  have hge := h.ge
  have hle := h.le
  have h0 := h.b0
  have h1 := h.e0
  have hrw := h.row
  refine ⟨hrow, (ht.block (R + 1) (Lib.lt_of_heap h.box) (by simp)).trans h.box, stS_other h.st ht (fun k hk => ?_), fr_other h.fr ht (fun k hk => ?_) (fun k hk => ?_) h.st.lew, h.b0, h.e0, h.ge, h.le⟩
  all_goals (simp only [List.mem_singleton] at hk; subst hk)
  · refine ⟨by omega, by omega, fun c fz e => ?_⟩
    rw [hrw] at e
    simp only [Option.some.injEq, Obj.cells.injEq] at e
    exact absurd e.2.1 (by decide)
  · omega
  · omega
end Go.Proofs.YtdkccihoecpcaaaGreatFmt
