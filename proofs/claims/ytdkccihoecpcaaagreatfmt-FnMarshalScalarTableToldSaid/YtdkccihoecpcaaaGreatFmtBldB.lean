/- The encoder over a bytes.Buffer: what the writes leave; an int. Conditions: at most 2 to the 47 bytes. -/
import Derived.Test.YtdkccihoecpcaaaGreatFmtFr
import Derived.Test.YtdkccihoecpcaaaGreatFmtAs
import Derived.Test.YtdkccihoecpcaaaGreatFmtShelfB
import Derived.Lib.ItoaLen
import Derived.Deep.RegionWith
namespace Go.Proofs.YtdkccihoecpcaaaGreatFmt
open Go.RowKit Go
/-- Block b is a bytes.Buffer that the call has made (from B on); it holds l. -/
def BldB (B b : Nat) (l : List UInt8) (w : World) : Prop := Lib.IsBuffer 76 5 B b (Lib.byteCells l) w
theorem bldTagB : (76 : Nat) ≠ 5 := by decide
theorem bldEncB : (76 : Nat) ≠ 66 := by decide
theorem own_carryB {w w' : World} {B : Nat} {v : Value} {n : Nat} {xs : List Value} (h : w.ownsRow B 5 1 v n xs) (hk : ∀ (k : Nat) c fz, w.heap[k]? = some (.cells c 5 fz) → w'.heap[k]? = w.heap[k]?) : w'.ownsRow B 5 1 v n xs :=
  ⟨h.1, h.2.imp_right fun ⟨g, cap, cur, hv, hB, hg, r⟩ => ⟨g, cap, cur, hv, hB, (hk g cur (0, 0) hg).trans hg, r⟩⟩
theorem bld_carryB {B b : Nat} {l : List UInt8} {w w' : World} (h : BldB B b l w) (hb : w'.heap[b]? = w.heap[b]?) (hk : ∀ (k : Nat) c fz, w.heap[k]? = some (.cells c 5 fz) → w'.heap[k]? = w.heap[k]?) : BldB B b l w' := by
  obtain ⟨hB, v, lr, hv, hown, hne⟩ := h
  exact ⟨hB, v, lr, hb.trans hv, own_carryB hown hk, hne⟩
theorem bld_headB {B b : Nat} {l : List UInt8} {w : World} (h : BldB B b l w) : ∃ cs, w.heap[b]? = some (.cells cs 76 (0, 0)) := by
  obtain ⟨_, v, lr, hv, _⟩ := h
  exact ⟨_, hv⟩
/-- Block eb is an encoder over the writer b. -/
structure EncB (w : World) (eb b : Nat) (cur : Array Value) : Prop where
  row : w.heap[eb]? = some (.cells cur 66 (0, 0))
  w0 : cur[0]? = some (.iface 77 (.pointer (some ⟨b, 0, none⟩)))
  size : cur.size = 65
/-- The writer b holds l; block eb is an encoder over it; both are the call's own. -/
structure StB (B b eb : Nat) (l : List UInt8) (w : World) : Prop where
  bld : BldB B b l w
  enc : ∃ cur, EncB w eb b cur
  leb : B ≤ eb
  lew : B ≤ w.heap.size
theorem StB.ne {B b eb : Nat} {l : List UInt8} {w : World} (h : StB B b eb l w) : eb ≠ b := by
  obtain ⟨cs, hb⟩ := bld_headB h.bld
  obtain ⟨cur, he⟩ := h.enc
  intro e
  rw [e] at he
  have := hb.symm.trans he.row
  simp only [Option.some.injEq, Obj.cells.injEq] at this
  exact bldEncB this.2.1
theorem StB.c0 {B b eb : Nat} {l : List UInt8} {w : World} (h : StB B b eb l w) : w.cell? ⟨eb, 0, none⟩ = some (.iface 77 (.pointer (some ⟨b, 0, none⟩))) := by
  obtain ⟨cur, he⟩ := h.enc
  simp [World.cell?, he.row, he.w0]
theorem enc_no_rowB (cur c : Array Value) (fz : Nat × Nat) : Obj.cells cur 66 (0, 0) ≠ .cells c 5 fz := by
  intro e
  simp only [Obj.cells.injEq] at e
  exact encTag e.2.1
/-- A write has gone to b. -/
theorem StB.step {B b eb : Nat} {l l' : List UInt8} {w w' : World} (h : StB B b eb l w) (hb : BldB B b l' w') (hl : Below B w w') (ho : Lib.OthersKept 5 (some b) w w') : StB B b eb l' w' ∧ Fr B b eb w w' := by
  have hne := h.ne
  obtain ⟨cur, he⟩ := h.enc
  exact ⟨⟨hb, ⟨cur, ho eb _ he.row (fun e => hne (Option.some.inj e)) (fun c fz => enc_no_rowB cur c fz), he.w0, he.size⟩, h.leb, Nat.le_trans h.lew hl.size⟩, Fr.of_k hl ho⟩
/-- New blocks alone. -/
theorem StB.grown {B b eb : Nat} {l : List UInt8} {w w' : World} (h : StB B b eb l w) (hb : Below w.heap.size w w') : StB B b eb l w' ∧ Fr B b eb w w' := by
  obtain ⟨cur, he⟩ := h.enc
  obtain ⟨cs, hh⟩ := bld_headB h.bld
  exact ⟨⟨bld_carryB h.bld (hb.block b (Lib.lt_of_heap hh)) (fun k c fz hk => hb.block k (Lib.lt_of_heap hk)), ⟨cur, (hb.block eb (Lib.lt_of_heap he.row)).trans he.row, he.w0, he.size⟩, h.leb, Nat.le_trans h.lew hb.size⟩, Fr.of_below h.lew hb⟩
theorem StB.drewN {B b eb : Nat} {l : List UInt8} {w : World} (h : StB B b eb l w) (n : Nat) : StB B b eb l (w.drewN n) := (h.grown (w' := w.drewN n) ⟨rfl, rfl, rfl, Nat.le_refl _, fun _ _ => rfl⟩).1
/-- The encoder's own row has changed. -/
theorem StB.touched {B b eb : Nat} {l : List UInt8} {w w' : World} (h : StB B b eb l w) (ht : Touch [eb] w w') (cur : Array Value) (he' : EncB w' eb b cur) : StB B b eb l w' ∧ Fr B b eb w w' := by
  have hne := h.ne
  obtain ⟨cur0, he⟩ := h.enc
  obtain ⟨cs, hh⟩ := bld_headB h.bld
  refine ⟨⟨bld_carryB h.bld (ht.block b (Lib.lt_of_heap hh) (by simpa using fun e => hne e.symm)) (fun k c fz hk => ht.block k (Lib.lt_of_heap hk) ?_), ⟨cur, he'⟩, h.leb, Nat.le_trans h.lew ht.size⟩, Fr.of_touch h.leb h.lew ht⟩
  simp only [List.mem_singleton]
  rintro rfl
  rw [he.row] at hk
  exact enc_no_rowB cur0 c fz (Option.some.inj hk)
/-- What a write leaves. -/
def WrB (B b eb : Nat) (l : List UInt8) (v : Value) (w : World) (e : Ending) (w' : World) : Prop := e = .returned v ∧ StB B b eb l w' ∧ Fr B b eb w w'
@[go_sem] theorem bld_nilB (d : Nat) (a : Addr) (nm : String) (w : World) (h : nm = "WriteString" ∨ nm = "Write" ∨ nm = "WriteByte") : (nilAhead (d + 1) 77 (.pointer (some a)) nm).run Tryz.prog w = .ok (some false) w := by
  rcases h with rfl | rfl | rfl <;> kernel_rfl
@[go_sem] theorem bld_wsB (d : Nat) (a : Addr) (w : World) : (method (d + 1) 77 (.pointer (some a)) "WriteString").run Tryz.prog w = .ok (291, .pointer (some a)) w := by kernel_rfl
@[go_sem] theorem bld_wbB (d : Nat) (a : Addr) (w : World) : (method (d + 1) 77 (.pointer (some a)) "WriteByte").run Tryz.prog w = .ok (290, .pointer (some a)) w := by kernel_rfl
@[go_sem] theorem bld_wB (d : Nat) (a : Addr) (w : World) : (method (d + 1) 77 (.pointer (some a)) "Write").run Tryz.prog w = .ok (289, .pointer (some a)) w := by kernel_rfl
theorem wsB {B b eb : Nat} {l : List UInt8} {w : World} (h : StB B b eb l w) (s : ByteArray) (hl : l.length + s.size ≤ 140737488355328) :
    Calls Tryz.prog 291 #[.pointer (some ⟨b, 0, none⟩), .string s] w (WrB B b eb (l ++ s.data.toList) (.tuple #[.int .i64 s.size, .nilIface]) w) :=
  (Tryz.Buffer_WriteString_k B b (Lib.byteCells l) s w h.bld h.lew (Lib.byteCells_one _) (by rw [bc_len]; exact hl)).mono fun _ _ ⟨h1, h2, h3, h4⟩ => ⟨h1, h.step (by unfold BldB; rw [← byteCells_app]; exact h2) h3 h4⟩
theorem wbB {B b eb : Nat} {l : List UInt8} {w : World} (h : StB B b eb l w) (c : UInt8) (hl : l.length + 1 ≤ 140737488355328) :
    Calls Tryz.prog 290 #[.pointer (some ⟨b, 0, none⟩), .int .u8 (c.toNat : Int)] w (WrB B b eb (l ++ [c]) .nilIface w) :=
  (Tryz.Buffer_WriteByte_k B b (Lib.byteCells l) (c.toNat : Int) w h.bld h.lew (Lib.byteCells_one _) (by rw [bc_len]; exact hl)).mono fun _ _ ⟨h1, h2, h3, h4⟩ => ⟨h1, h.step (by unfold BldB; rw [← byteCells_snoc]; exact h2) h3 h4⟩
theorem wrB {B b eb : Nat} {l : List UInt8} {w : World} (h : StB B b eb l w) (s : List UInt8) (c : Nat) (cur : Array Value) (hrow : w.heap[eb]? = some (.cells cur 66 (0, 0))) (hsrc : ∀ j u, (Lib.byteCells s)[j]? = some u → cur[1 + j]? = some u) (hl : l.length + s.length ≤ 140737488355328) :
    Calls Tryz.prog 289 #[.pointer (some ⟨b, 0, none⟩), .slice (some ⟨eb, 1, none⟩) s.length c] w (WrB B b eb (l ++ s) (.tuple #[.int .i64 s.length, .nilIface]) w) :=
  (Tryz.Buffer_Write_any B b (Lib.byteCells l) (Lib.byteCells s) ⟨eb, 1, none⟩ s.length c w h.bld h.lew (Lib.byteCells_one _) (bc_len s) h.ne (fun j u hj => by rw [Lib.addr_add, Lib.cell_of_heap hrow]; exact hsrc j u hj) (Lib.byteCells_one _) (by rw [bc_len]; exact hl)).mono fun _ _ ⟨h1, h2, h3, h4⟩ => ⟨h1, h.step (by unfold BldB; rw [← byteCells_app]; exact h2) h3 h4⟩
/-- The writes, from a world in which nothing but new blocks have come since. -/
theorem wsFromB {B b eb : Nat} {l : List UInt8} {w0 w : World} (h : StB B b eb l w) (hF : Fr B b eb w0 w) (s : ByteArray) (hl : l.length + s.size ≤ 140737488355328) (W : World) (hW : Below w.heap.size w W) :
    Calls Tryz.prog 291 #[.pointer (some ⟨b, 0, none⟩), .string s] W (WrB B b eb (l ++ s.data.toList) (.tuple #[.int .i64 s.size, .nilIface]) w0) :=
  (wsB (h.grown hW).1 s hl).mono fun _ _ ⟨h1, h2, h3⟩ => ⟨h1, h2, (hF.trans (h.grown hW).2).trans h3⟩
theorem wbFromB {B b eb : Nat} {l : List UInt8} {w0 w : World} (h : StB B b eb l w) (hF : Fr B b eb w0 w) (c : UInt8) (hl : l.length + 1 ≤ 140737488355328) (W : World) (hW : Below w.heap.size w W) :
    Calls Tryz.prog 290 #[.pointer (some ⟨b, 0, none⟩), .int .u8 (c.toNat : Int)] W (WrB B b eb (l ++ [c]) .nilIface w0) :=
  (wbB (h.grown hW).1 c hl).mono fun _ _ ⟨h1, h2, h3⟩ => ⟨h1, h2, (hF.trans (h.grown hW).2).trans h3⟩
set_option maxRecDepth 100000 in
set_option maxHeartbeats 1600000 in
theorem encB_int {B b eb : Nat} {l : List UInt8} {w : World} (h : StB B b eb l w) (v : Int) (hv : -9223372036854775808 ≤ v ∧ v ≤ 9223372036854775807) (htab : Tab B w) (hl : l.length + 21 ≤ 140737488355328) :
    Calls Tryz.prog 33 #[.pointer (some ⟨eb, 0, none⟩), .iface 3 (.int .i64 v)] w (WrB B b eb (l ++ Lib.itoa v) (.tuple #[]) w) := by
  have c0 := h.c0
  have hleb := h.leb
  obtain ⟨cur, he⟩ := h.enc
  have hsl := run_buf0 eb
  have hlen := Lib.itoa_length_le v hv.1 hv.2
  have HA := Lib.hid (show ∀ W, Touch [] w W → Calls Tryz.prog 41 #[.slice (some ⟨eb, 1, none⟩) 0 64, .int .i64 v, .int .i64 10] W (fun e w1 => Appended w eb 0 cur (Lib.itoa v) e w1 ∧ w1.cell? ⟨eb, 0, none⟩ = some (.iface 77 (.pointer (some ⟨b, 0, none⟩)))) from fun W hW =>
    (appIntPublic W eb v cur hv he.size ((hW.block eb (Lib.lt_of_heap he.row) (by simp)).trans he.row) B hleb (tab_touch htab hW (by simp))).mono (fun _ _ ⟨r1, r2, r3⟩ => ⟨⟨r1, r2, (hW.mono (by simp)).trans r3⟩, by
      simp only [World.cell?, r2]
      rw [putAt_low _ _ _ _ (by rw [he.size, bc_len]; omega) (by omega)]
      exact he.w0⟩))
  have HW := Lib.hid (show ∀ w1, w1.heap[eb]? = some (.cells (putAt cur 1 (Lib.byteCells (Lib.itoa v))) 66 (0, 0)) → Touch [eb] w w1 → Calls Tryz.prog 289 #[.pointer (some ⟨b, 0, none⟩), .slice (some ⟨eb, 1, none⟩) (Lib.itoa v).length 64] w1 (WrB B b eb (l ++ Lib.itoa v) (.tuple #[.int .i64 (Lib.itoa v).length, .nilIface]) w) from fun w1 hg ht => by
    have he1 : EncB w1 eb b (putAt cur 1 (Lib.byteCells (Lib.itoa v))) := ⟨hg, by rw [putAt_low _ _ _ _ (by rw [he.size, bc_len]; omega) (by omega)]; exact he.w0, by rw [putAt_size _ _ _ (by rw [he.size, bc_len]; omega)]; exact he.size⟩
    obtain ⟨st, fr⟩ := h.touched ht _ he1
    exact (wrB st (Lib.itoa v) 64 _ hg (fun j u hj => by
      have hjl : j < (Lib.byteCells (Lib.itoa v)).length := (List.getElem?_eq_some_iff.1 hj).1
      rw [← hj]
      exact putAt_new cur 1 _ j (by rw [he.size, bc_len]; omega) hjl) (by omega)).mono fun _ _ ⟨r1, r2, r3⟩ => ⟨r1, r2, fr.trans r3⟩)
  clear htab he h hlen
  go_enter Tryz.func33, Tryz.ntmps33
  go_wp2
  go_region_with (first
    | (go_at_call 41; refine (HA.out _ (by first | exact Touch.refl _ _ | exact (Touch.refl _ _).drewN 1)).mono ?_; rintro e w1 ⟨⟨rfl, hg1, ht1⟩, hc1⟩)
    | (go_at_call 289; refine (HW.out _ hg1 ht1).mono ?_; rintro e w' ⟨rfl, hS, hF⟩))
  all_goals go_wp2
  all_goals go_end0
  all_goals exact ⟨rfl, hS, hF⟩
end Go.Proofs.YtdkccihoecpcaaaGreatFmt
