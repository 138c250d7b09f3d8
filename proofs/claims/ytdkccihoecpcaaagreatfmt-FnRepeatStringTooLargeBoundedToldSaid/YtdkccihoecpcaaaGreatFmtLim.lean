/- The limited writer: what it holds, and what its writes do while there is room. Conditions: fewer than 32 bytes in all. -/
import Derived.Test.YtdkccihoecpcaaaGreatFmtTouch
namespace Go.Proofs.YtdkccihoecpcaaaGreatFmt
open Go.RowKit Go
/-- The row of a limited writer that holds l. -/
def limRow (l : List UInt8) : Array Value := (Lib.byteCells l ++ List.replicate (32 - l.length) (Value.int .u8 0)).toArray
/-- Block lb is a limited writer with the row bb; it holds l, and there is room for one byte more. -/
structure Lim (w : World) (lb bb : Nat) (l : List UInt8) : Prop where
  head : w.heap[lb]? = some (.cells #[.slice (some ⟨bb, 0, none⟩) 32 32, .int .i64 l.length] 114 (0, 0))
  row : w.heap[bb]? = some (.cells (limRow l) 5 (0, 0))
  ne : lb ≠ bb
  lt : l.length < 32
theorem limRow_size (l : List UInt8) (h : l.length < 32) : (limRow l).size = 32 := by simp [limRow, bc_len]; omega
theorem limRow_put (l s : List UInt8) (h : l.length + s.length < 32) : ((limRow l).toList.take l.length ++ Lib.byteCells s ++ (limRow l).toList.drop (l.length + s.length)).toArray = limRow (l ++ s) := by
  have e1 : (Lib.byteCells l).length = l.length := bc_len l
  simp only [limRow]
  rw [List.take_left' e1, List.drop_append, List.drop_of_length_le (by rw [e1]; omega), e1]
  simp only [Lib.byteCells, List.map_append, List.nil_append, List.drop_replicate, List.length_append]
  congr 2
  rw [show 32 - l.length - (l.length + s.length - l.length) = 32 - (l.length + s.length) from by omega]
theorem Lim.h0 {w : World} {lb bb : Nat} {l : List UInt8} (h : Lim w lb bb l) : w.cell? ⟨lb, 0, none⟩ = some (.slice (some ⟨bb, 0, none⟩) 32 32) := by simp [World.cell?, h.head]
theorem Lim.h1 {w : World} {lb bb : Nat} {l : List UInt8} (h : Lim w lb bb l) : w.cell? ⟨lb, 1, none⟩ = some (.int .i64 l.length) := by simp [World.cell?, h.head]
theorem Lim.f1 {w : World} {lb bb : Nat} {l : List UInt8} (h : Lim w lb bb l) : w.frozen? ⟨lb, 1, none⟩ = false := by simp [World.frozen?, h.head]
theorem Lim.drewN {w : World} {lb bb : Nat} {l : List UInt8} (h : Lim w lb bb l) (n : Nat) : Lim (w.drewN n) lb bb l := ⟨h.head, h.row, h.ne, h.lt⟩
theorem Lim.touch {S : List Nat} {w w' : World} {lb bb : Nat} {l : List UInt8} (h : Lim w lb bb l) (ht : Touch S w w') (h1 : lb ∉ S) (h2 : bb ∉ S) : Lim w' lb bb l :=
  ⟨(ht.block lb (Lib.lt_of_heap h.head) h1).trans h.head, (ht.block bb (Lib.lt_of_heap h.row) h2).trans h.row, h.ne, h.lt⟩
theorem Lim.put {w : World} {lb bb : Nat} {l s : List UInt8} (h : Lim w lb bb l) (hs : l.length + s.length < 32) (cs : Array Value) (hcs : cs = limRow (l ++ s)) (z : Int) (hz : z = ((l ++ s).length : Nat)) :
    Lim ((w.setRow bb cs).setCell ⟨lb, 1, none⟩ (.int .i64 z)) lb bb (l ++ s) := by
  subst hcs hz
  refine ⟨?_, ?_, h.ne, by simp; omega⟩
  · have hh : (w.setRow bb (limRow (l ++ s))).heap[lb]? = some (.cells #[.slice (some ⟨bb, 0, none⟩) 32 32, .int .i64 l.length] 114 (0, 0)) := by rw [setRow_other _ _ _ _ h.ne]; exact h.head
    rw [Lib.heap_setCell_same (i := 1) hh]
    rfl
  · rw [Below.heap_setCell _ _ _ _ (Ne.symm h.ne)]
    exact setRow_heap w bb _ _ _ _ h.row
/-- What a write leaves. -/
def Wrote (S : List Nat) (w : World) (lb bb : Nat) (l : List UInt8) (v : Value) (e : Ending) (w' : World) : Prop := e = .returned v ∧ Lim w' lb bb l ∧ Touch S w w'
set_option maxRecDepth 100000 in
theorem run_tail (bb k : Nat) (hk : k < 32) (W : World) : (Instr.slice 29 (.slice (some ⟨bb, 0, none⟩) 32 32) (some (.int .i64 k)) none none).run Tryz.prog W = .ok (.slice (some ⟨bb, k, none⟩) (32 - k) (32 - k)) W := by
  rw [run_slice_l (P := Tryz.prog) W 29 (some ⟨bb, 0, none⟩) 32 32 Tryz.underlying29 .i64 (k : Int) (by omega) (by omega)]
  have hsz : ∀ W, (sizeOf (Tryz.prog.elem 29)).run Tryz.prog W = .ok 1 W := fun W => by kernel_rfl
  have hne : ¬ 32 = k := by omega
  rw [hsz]
  simp [sliced, Addr.add, Result.andThen, hne]
  try omega
set_option maxRecDepth 100000 in
theorem lim_writeString (w : World) (lb bb : Nat) (l : List UInt8) (s : ByteArray) (h : Lim w lb bb l) (hs : l.length + s.size < 32) :
    Calls Tryz.prog 303 #[.pointer (some ⟨lb, 0, none⟩), .string s] w (Wrote [lb, bb] w lb bb (l ++ s.data.toList) (.tuple #[.int .i64 s.size, .nilIface])) := by
  have hsz : s.data.toList.length = s.size := by rw [Array.length_toList]; rfl
  have hlt := h.lt
  have h0 := h.h0
  have h1 := h.h1
  have f1 := h.f1
  have hcp := Lib.run_copy_row_string (P := Tryz.prog) w 29 9 3 5 bb l.length (32 - l.length) (32 - l.length) s (limRow l) 5 Tryz.underlying29 (by kernel_rfl) h.row (by omega) (by rw [limRow_size l hlt]; omega)
  have hcq := Lib.run_copy_row_string (P := Tryz.prog) w.drew 29 9 3 5 bb l.length (32 - l.length) (32 - l.length) s (limRow l) 5 Tryz.underlying29 (by kernel_rfl) h.row (by omega) (by rw [limRow_size l hlt]; omega)
  have e1 := limRow_put l s.data.toList (by omega)
  rw [hsz] at e1
  rw [e1] at hcp hcq
  have hc0 : (w.setRow bb (limRow (l ++ s.data.toList))).cell? ⟨lb, 0, none⟩ = some (.slice (some ⟨bb, 0, none⟩) 32 32) := by rw [cell_setRow_other _ _ _ _ h.ne]; exact h0
  have hc1 : (w.setRow bb (limRow (l ++ s.data.toList))).cell? ⟨lb, 1, none⟩ = some (.int .i64 l.length) := by rw [cell_setRow_other _ _ _ _ h.ne]; exact h1
  have hf1 : (w.setRow bb (limRow (l ++ s.data.toList))).frozen? ⟨lb, 1, none⟩ = false := by
    have := setRow_other w bb lb (limRow (l ++ s.data.toList)) h.ne
    rw [World.frozen?_of_block (w := w) (a := ⟨lb, 1, none⟩) this]; exact f1
  have hd0 : (w.drew.setRow bb (limRow (l ++ s.data.toList))).cell? ⟨lb, 0, none⟩ = some (.slice (some ⟨bb, 0, none⟩) 32 32) := hc0
  have hd1 : (w.drew.setRow bb (limRow (l ++ s.data.toList))).cell? ⟨lb, 1, none⟩ = some (.int .i64 l.length) := hc1
  have hdf : (w.drew.setRow bb (limRow (l ++ s.data.toList))).frozen? ⟨lb, 1, none⟩ = false := hf1
  obtain ⟨m, hm⟩ : ∃ m, m = l.length + s.size := ⟨_, rfl⟩
  have hsum : IntKind.i64.wrap ((l.length : Int) + (s.size : Int)) = (m : Int) := by rw [IntWalk.i64_in _ (by omega)]; omega
  have hput := h.put (s := s.data.toList) (by omega) _ rfl (m : Int) (by simp only [List.length_append, hsz]; omega)
  have HP := Lib.hid hput
  have HT := Lib.hid (((Touch.refl [lb, bb] w).setRow bb (.inl (by simp)) (limRow (l ++ s.data.toList))).setCell ⟨lb, 1, none⟩ (.inl (by simp)) (.int .i64 (m : Int)))
  have hsl := run_tail bb l.length hlt
  have hm32 : ((m : Int) == 32) = false := by rw [beq_eq_false_iff_ne]; omega
  clear hput e1 hsz h hm
  generalize l.length = k at *
  go_enter Tryz.func303, Tryz.ntmps303
  go_wp2
  go_region
  all_goals go_wp2
  all_goals go_region
  all_goals go_wp2
  all_goals go_ret2
  all_goals exact ⟨rfl, HP.out.drewN 2, HT.out.drewN 2⟩
set_option maxRecDepth 100000 in
theorem lim_write (w : World) (lb bb : Nat) (l s : List UInt8) (sa : Addr) (c : Nat) (h : Lim w lb bb l) (hs : l.length + s.length < 32) (hc : ∀ j u, (Lib.byteCells s)[j]? = some u → w.cell? (sa.add j) = some u) :
    Calls Tryz.prog 301 #[.pointer (some ⟨lb, 0, none⟩), .slice (some sa) s.length c] w (Wrote [lb, bb] w lb bb (l ++ s) (.tuple #[.int .i64 s.length, .nilIface])) := by
  have hlt := h.lt
  have h0 := h.h0
  have h1 := h.h1
  have f1 := h.f1
  have hbl := bc_len s
  have hcp := run_copy_row (P := Tryz.prog) w 29 29 3 5 bb l.length (32 - l.length) (32 - l.length) sa s.length c (limRow l) 5 (Lib.byteCells s) Tryz.underlying29 (by kernel_rfl) h.row (by rw [hbl]; exact (Nat.min_eq_left (by omega)).symm) hc (by rw [limRow_size l hlt]; omega) (Lib.byteCells_one s)
  have hcq := run_copy_row (P := Tryz.prog) w.drew 29 29 3 5 bb l.length (32 - l.length) (32 - l.length) sa s.length c (limRow l) 5 (Lib.byteCells s) Tryz.underlying29 (by kernel_rfl) h.row (by rw [hbl]; exact (Nat.min_eq_left (by omega)).symm) hc (by rw [limRow_size l hlt]; omega) (Lib.byteCells_one s)
  have e1 := limRow_put l s (by omega)
  rw [hbl, e1] at hcp hcq
  have hc0 : (w.setRow bb (limRow (l ++ s))).cell? ⟨lb, 0, none⟩ = some (.slice (some ⟨bb, 0, none⟩) 32 32) := by rw [cell_setRow_other _ _ _ _ h.ne]; exact h0
  have hc1 : (w.setRow bb (limRow (l ++ s))).cell? ⟨lb, 1, none⟩ = some (.int .i64 l.length) := by rw [cell_setRow_other _ _ _ _ h.ne]; exact h1
  have hf1 : (w.setRow bb (limRow (l ++ s))).frozen? ⟨lb, 1, none⟩ = false := by
    have := setRow_other w bb lb (limRow (l ++ s)) h.ne
    rw [World.frozen?_of_block (w := w) (a := ⟨lb, 1, none⟩) this]; exact f1
  have hd0 : (w.drew.setRow bb (limRow (l ++ s))).cell? ⟨lb, 0, none⟩ = some (.slice (some ⟨bb, 0, none⟩) 32 32) := hc0
  have hd1 : (w.drew.setRow bb (limRow (l ++ s))).cell? ⟨lb, 1, none⟩ = some (.int .i64 l.length) := hc1
  have hdf : (w.drew.setRow bb (limRow (l ++ s))).frozen? ⟨lb, 1, none⟩ = false := hf1
  obtain ⟨m, hm⟩ : ∃ m, m = l.length + s.length := ⟨_, rfl⟩
  have hsum : IntKind.i64.wrap ((l.length : Int) + (s.length : Int)) = (m : Int) := by rw [IntWalk.i64_in _ (by omega)]; omega
  have hput := h.put (s := s) (by omega) _ rfl (m : Int) (by simp only [List.length_append]; omega)
  have HP := Lib.hid hput
  have HT := Lib.hid (((Touch.refl [lb, bb] w).setRow bb (.inl (by simp)) (limRow (l ++ s))).setCell ⟨lb, 1, none⟩ (.inl (by simp)) (.int .i64 (m : Int)))
  have hsl := run_tail bb l.length hlt
  have hm32 : ((m : Int) == 32) = false := by rw [beq_eq_false_iff_ne]; omega
  clear hput e1 hbl h hm hc
  generalize l.length = k at *
  go_enter Tryz.func301, Tryz.ntmps301
  go_wp2
  go_region
  all_goals go_wp2
  all_goals go_region
  all_goals go_wp2
  all_goals go_ret2
  all_goals exact ⟨rfl, HP.out.drewN 2, HT.out.drewN 2⟩
end Go.Proofs.YtdkccihoecpcaaaGreatFmt
