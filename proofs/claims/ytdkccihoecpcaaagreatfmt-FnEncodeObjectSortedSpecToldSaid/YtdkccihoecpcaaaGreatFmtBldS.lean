/- The encoder over a strings.Builder: what the writes leave; an int. Conditions: at most 2 to the 47 bytes. -/
import Derived.Test.YtdkccihoecpcaaaGreatFmtFr
import Derived.Test.YtdkccihoecpcaaaGreatFmtAs
import Derived.Test.YtdkccihoecpcaaaGreatFmtShelfS
import Derived.Lib.ItoaLen
import Derived.Deep.RegionWith
namespace Go.Proofs.YtdkccihoecpcaaaGreatFmt
open Go.RowKit Go
/-- Block b is a strings.Builder that the call has made (from B on); it holds l. -/
def BldS (B b : Nat) (l : List UInt8) (w : World) : Prop := Lib.IsBuilderF 61 5 B b (Lib.byteCells l) w
theorem bldTagS : (61 : Nat) ≠ 5 := by decide
theorem bldEncS : (61 : Nat) ≠ 66 := by decide
theorem own_carryS {w w' : World} {B : Nat} {v : Value} {n : Nat} {xs : List Value} (h : w.ownsRowF B 5 1 v n xs) (hk : ∀ (k : Nat) c fz, w.heap[k]? = some (.cells c 5 fz) → w'.heap[k]? = w.heap[k]?) : w'.ownsRowF B 5 1 v n xs :=
  ⟨h.1, h.2.imp_right fun ⟨g, cap, cur, fz, hv, hB, hg, r⟩ => ⟨g, cap, cur, fz, hv, hB, (hk g cur fz hg).trans hg, r⟩⟩
theorem bld_carryS {B b : Nat} {l : List UInt8} {w w' : World} (h : BldS B b l w) (hb : w'.heap[b]? = w.heap[b]?) (hk : ∀ (k : Nat) c fz, w.heap[k]? = some (.cells c 5 fz) → w'.heap[k]? = w.heap[k]?) : BldS B b l w' := by
  rcases h with ⟨hB, v, hv, hown, hne⟩ | ⟨hB, v, hv, hown, hne⟩
  · exact .inl ⟨hB, v, hb.trans hv, own_carryS hown hk, hne⟩
  · exact .inr ⟨hB, v, hb.trans hv, own_carryS hown hk, hne⟩
theorem bld_headS {B b : Nat} {l : List UInt8} {w : World} (h : BldS B b l w) : ∃ cs, w.heap[b]? = some (.cells cs 61 (0, 0)) := by
  rcases h with ⟨_, v, hv, _⟩ | ⟨_, v, hv, _⟩ <;> exact ⟨_, hv⟩
/-- Block eb is an encoder over the writer b. -/
structure EncS (w : World) (eb b : Nat) (cur : Array Value) : Prop where
  row : w.heap[eb]? = some (.cells cur 66 (0, 0))
  w0 : cur[0]? = some (.iface 59 (.pointer (some ⟨b, 0, none⟩)))
  size : cur.size = 65
/-- The writer b holds l; block eb is an encoder over it; both are the call's own. -/
structure StS (B b eb : Nat) (l : List UInt8) (w : World) : Prop where
  bld : BldS B b l w
  enc : ∃ cur, EncS w eb b cur
  leb : B ≤ eb
  lew : B ≤ w.heap.size
theorem StS.ne {B b eb : Nat} {l : List UInt8} {w : World} (h : StS B b eb l w) : eb ≠ b := by
  obtain ⟨cs, hb⟩ := bld_headS h.bld
  obtain ⟨cur, he⟩ := h.enc
  intro e
  rw [e] at he
  have := hb.symm.trans he.row
  simp only [Option.some.injEq, Obj.cells.injEq] at this
  exact bldEncS this.2.1
theorem StS.c0 {B b eb : Nat} {l : List UInt8} {w : World} (h : StS B b eb l w) : w.cell? ⟨eb, 0, none⟩ = some (.iface 59 (.pointer (some ⟨b, 0, none⟩))) := by
  obtain ⟨cur, he⟩ := h.enc
  simp [World.cell?, he.row, he.w0]
theorem enc_no_rowS (cur c : Array Value) (fz : Nat × Nat) : Obj.cells cur 66 (0, 0) ≠ .cells c 5 fz := by
  intro e
  simp only [Obj.cells.injEq] at e
  exact encTag e.2.1
/-- A write has gone to b. -/
theorem StS.step {B b eb : Nat} {l l' : List UInt8} {w w' : World} (h : StS B b eb l w) (hb : BldS B b l' w') (hl : Below B w w') (ho : Lib.OthersKept 5 (some b) w w') : StS B b eb l' w' ∧ Fr B b eb w w' := by
  have hne := h.ne
  obtain ⟨cur, he⟩ := h.enc
  exact ⟨⟨hb, ⟨cur, ho eb _ he.row (fun e => hne (Option.some.inj e)) (fun c fz => enc_no_rowS cur c fz), he.w0, he.size⟩, h.leb, Nat.le_trans h.lew hl.size⟩, Fr.of_k hl ho⟩
/-- New blocks alone. -/
theorem StS.grown {B b eb : Nat} {l : List UInt8} {w w' : World} (h : StS B b eb l w) (hb : Below w.heap.size w w') : StS B b eb l w' ∧ Fr B b eb w w' := by
  obtain ⟨cur, he⟩ := h.enc
  obtain ⟨cs, hh⟩ := bld_headS h.bld
  exact ⟨⟨bld_carryS h.bld (hb.block b (Lib.lt_of_heap hh)) (fun k c fz hk => hb.block k (Lib.lt_of_heap hk)), ⟨cur, (hb.block eb (Lib.lt_of_heap he.row)).trans he.row, he.w0, he.size⟩, h.leb, Nat.le_trans h.lew hb.size⟩, Fr.of_below h.lew hb⟩
theorem StS.drewN {B b eb : Nat} {l : List UInt8} {w : World} (h : StS B b eb l w) (n : Nat) : StS B b eb l (w.drewN n) := (h.grown (w' := w.drewN n) ⟨rfl, rfl, rfl, Nat.le_refl _, fun _ _ => rfl⟩).1
/-- The encoder's own row has changed. -/
theorem StS.touched {B b eb : Nat} {l : List UInt8} {w w' : World} (h : StS B b eb l w) (ht : Touch [eb] w w') (cur : Array Value) (he' : EncS w' eb b cur) : StS B b eb l w' ∧ Fr B b eb w w' := by
  have hne := h.ne
  obtain ⟨cur0, he⟩ := h.enc
  obtain ⟨cs, hh⟩ := bld_headS h.bld
  refine ⟨⟨bld_carryS h.bld (ht.block b (Lib.lt_of_heap hh) (by simpa using fun e => hne e.symm)) (fun k c fz hk => ht.block k (Lib.lt_of_heap hk) ?_), ⟨cur, he'⟩, h.leb, Nat.le_trans h.lew ht.size⟩, Fr.of_touch h.leb h.lew ht⟩
  simp only [List.mem_singleton]
  rintro rfl
  rw [he.row] at hk
  exact enc_no_rowS cur0 c fz (Option.some.inj hk)
/-- What a write leaves. -/
def WrS (B b eb : Nat) (l : List UInt8) (v : Value) (w : World) (e : Ending) (w' : World) : Prop := e = .returned v ∧ StS B b eb l w' ∧ Fr B b eb w w'
@[go_sem] theorem bld_nilS (d : Nat) (a : Addr) (nm : String) (w : World) (h : nm = "WriteString" ∨ nm = "Write" ∨ nm = "WriteByte") : (nilAhead (d + 1) 59 (.pointer (some a)) nm).run Tryz.prog w = .ok (some false) w := by
  rcases h with rfl | rfl | rfl <;> kernel_rfl
@[go_sem] theorem bld_wsS (d : Nat) (a : Addr) (w : World) : (method (d + 1) 59 (.pointer (some a)) "WriteString").run Tryz.prog w = .ok (284, .pointer (some a)) w := by kernel_rfl
@[go_sem] theorem bld_wbS (d : Nat) (a : Addr) (w : World) : (method (d + 1) 59 (.pointer (some a)) "WriteByte").run Tryz.prog w = .ok (283, .pointer (some a)) w := by kernel_rfl
@[go_sem] theorem bld_wS (d : Nat) (a : Addr) (w : World) : (method (d + 1) 59 (.pointer (some a)) "Write").run Tryz.prog w = .ok (282, .pointer (some a)) w := by kernel_rfl
theorem wsS {B b eb : Nat} {l : List UInt8} {w : World} (h : StS B b eb l w) (s : ByteArray) (hl : l.length + s.size ≤ 140737488355328) :
    Calls Tryz.prog 284 #[.pointer (some ⟨b, 0, none⟩), .string s] w (WrS B b eb (l ++ s.data.toList) (.tuple #[.int .i64 s.size, .nilIface]) w) :=
  (Tryz.Builder_WriteString_k B b (Lib.byteCells l) s w h.bld (by rw [bc_len]; exact hl) h.lew).mono fun _ _ ⟨h1, h2, h3, h4⟩ => ⟨h1, h.step (.inr (by rw [← byteCells_app, ← strCells_eq]; exact h2)) h3 h4⟩
theorem wbS {B b eb : Nat} {l : List UInt8} {w : World} (h : StS B b eb l w) (c : UInt8) (hl : l.length + 1 ≤ 140737488355328) :
    Calls Tryz.prog 283 #[.pointer (some ⟨b, 0, none⟩), .int .u8 (c.toNat : Int)] w (WrS B b eb (l ++ [c]) .nilIface w) :=
  (Tryz.Builder_WriteByte_k B b (Lib.byteCells l) (c.toNat : Int) w h.bld (by rw [bc_len]; exact hl) h.lew).mono fun _ _ ⟨h1, h2, h3, h4⟩ => ⟨h1, h.step (.inr (by rw [← byteCells_snoc]; exact h2)) h3 h4⟩
set_option maxRecDepth 100000 in
set_option maxHeartbeats 2000000 in
theorem builder_write {B b eb : Nat} {l : List UInt8} {w : World} (h : StS B b eb l w) (s : List UInt8) (c : Nat) (cur : Array Value) (hrow : w.heap[eb]? = some (.cells cur 66 (0, 0))) (hsrc : ∀ j u, (Lib.byteCells s)[j]? = some u → cur[1 + j]? = some u) (hl : l.length + s.length ≤ 140737488355328) :
    Calls Tryz.prog 282 #[.pointer (some ⟨b, 0, none⟩), .slice (some ⟨eb, 1, none⟩) s.length c] w fun e w' => e = .returned (.tuple #[.int .i64 s.length, .nilIface]) ∧ (Lib.BuilderAtF 61 5 B b (.pointer (some ⟨b, 0, none⟩)) (Lib.byteCells (l ++ s)) w' ∧ Below B w w' ∧ Lib.OthersKept 5 (some b) w w') := by
  obtain ⟨i0, hi, hz0, hz1, hz2⟩ := info_parts info_byte3
  have hne := h.ne
  have hBw := h.lew
  have hcc := Tryz.Builder_copyCheck_k B b (Lib.byteCells l) w h.bld
  have hbl := bc_len l
  have hbs := bc_len s
  go_enter Tryz.func282, Tryz.ntmps282
  go_wp2_with (go_at_call 285; refine hcc.mono ?_)
  rintro e w1 ⟨rfl, h1, hb1, hk1⟩
  obtain ⟨hB, v, hbk, hown, hne2⟩ := h1
  have hrow1 : w1.heap[eb]? = some (.cells cur 66 (0, 0)) := hk1 eb _ hrow (fun e => hne (Option.some.inj e)) (fun c fz => enc_no_rowS cur c fz)
  have hsrc1 : ∀ j u, (Lib.byteCells s)[j]? = some u → w1.cell? ((⟨eb, 1, none⟩ : Addr).add j) = some u := fun j u hj => by
    rw [Lib.addr_add, Lib.cell_of_heap hrow1]
    exact hsrc j u hj
  have c0 : w1.cell? ⟨b, 0, none⟩ = some (.pointer (some ⟨b, 0, none⟩)) := by rw [Lib.cell_of_heap hbk]; rfl
  have c1 : w1.cell? ⟨b, 1, none⟩ = some v := by rw [Lib.cell_of_heap hbk]; rfl
  have HS := Lib.hid hsrc1
  have HL := Lib.hid hbs
  clear hsrc1 hsrc hbs hcc hrow
  go_wp2_with (at_builtin; refine wpList_append_ownF _ rfl _ _ 29 rfl B 5 i0 (.int .u8 0) 1 1 Tryz.underlying29 hi hz0 hz1 hz2 rfl (by decide) _ _ _ rfl hown ⟨eb, 1, none⟩ s.length c (Lib.byteCells s) rfl ?c0 ?c1 ?c2 ?c3 ?c4 ?c5 ?_)
  case c0 => rw [HL.out, Nat.mul_one]
  case c1 => exact HS.out
  case c2 => exact Lib.byteCells_one s
  case c3 => unfold maxLen; omega
  case c4 => omega
  case c5 => have := hb1.size; omega
  intro v' w2 hown' hgrow _
  have hlt : b < w1.heap.size := Lib.lt_of_heap hbk
  have hb2 : w2.heap[b]? = some (.cells #[.pointer (some ⟨b, 0, none⟩), v] 61 (0, 0)) := by
    rw [hgrow.block b hlt (fun e => hne2 e.symm)]
    exact hbk
  have d0 : w2.cell? ⟨b, 0, none⟩ = some (.pointer (some ⟨b, 0, none⟩)) := by rw [Lib.cell_of_heap hb2]; rfl
  have d1 : w2.cell? ⟨b, 1, none⟩ = some v := by rw [Lib.cell_of_heap hb2]; rfl
  have f1 : w2.frozen? ⟨b, 1, none⟩ = false := Lib.frozen_of_heap hb2 1
  obtain ⟨ao, n', cap, rfl⟩ : ∃ ao n' cap, v' = .slice ao n' cap := by
    rcases hown'.2 with ⟨hv, _⟩ | ⟨g, cap, cur, fz, hv, _⟩
    · exact ⟨_, _, _, hv⟩
    · exact ⟨_, _, _, hv⟩
  have HO := Lib.hid hown'
  clear hown'
  go_wp2
  go_ret2
  refine ⟨rfl, ?_, ?_, (hk1.grown hgrow (Lib.ownsRowF_kind hown)).setCell ⟨b, 1, none⟩ rfl _⟩
  · rw [← byteCells_app]
    exact Lib.BuilderAtF.put (T := 61) (e := 5) hB hb2 (bs' := Lib.byteCells l ++ Lib.byteCells s) (by rw [List.length_append, HL.out, hbl]; exact HO.out) bldTagS
  · exact (hb1.grown hgrow (by have := hb1.size; omega) (fun k hk => (hown.lt k hk).1)).setCell (p := ⟨b, 1, none⟩) hB _
theorem wrS {B b eb : Nat} {l : List UInt8} {w : World} (h : StS B b eb l w) (s : List UInt8) (c : Nat) (cur : Array Value) (hrow : w.heap[eb]? = some (.cells cur 66 (0, 0))) (hsrc : ∀ j u, (Lib.byteCells s)[j]? = some u → cur[1 + j]? = some u) (hl : l.length + s.length ≤ 140737488355328) :
    Calls Tryz.prog 282 #[.pointer (some ⟨b, 0, none⟩), .slice (some ⟨eb, 1, none⟩) s.length c] w (WrS B b eb (l ++ s) (.tuple #[.int .i64 s.length, .nilIface]) w) :=
  (builder_write h s c cur hrow hsrc hl).mono fun _ _ ⟨h1, h2, h3, h4⟩ => ⟨h1, h.step (.inr h2) h3 h4⟩
/-- The writes, from a world in which nothing but new blocks have come since. -/
theorem wsFromS {B b eb : Nat} {l : List UInt8} {w0 w : World} (h : StS B b eb l w) (hF : Fr B b eb w0 w) (s : ByteArray) (hl : l.length + s.size ≤ 140737488355328) (W : World) (hW : Below w.heap.size w W) :
    Calls Tryz.prog 284 #[.pointer (some ⟨b, 0, none⟩), .string s] W (WrS B b eb (l ++ s.data.toList) (.tuple #[.int .i64 s.size, .nilIface]) w0) :=
  (wsS (h.grown hW).1 s hl).mono fun _ _ ⟨h1, h2, h3⟩ => ⟨h1, h2, (hF.trans (h.grown hW).2).trans h3⟩
theorem wbFromS {B b eb : Nat} {l : List UInt8} {w0 w : World} (h : StS B b eb l w) (hF : Fr B b eb w0 w) (c : UInt8) (hl : l.length + 1 ≤ 140737488355328) (W : World) (hW : Below w.heap.size w W) :
    Calls Tryz.prog 283 #[.pointer (some ⟨b, 0, none⟩), .int .u8 (c.toNat : Int)] W (WrS B b eb (l ++ [c]) .nilIface w0) :=
  (wbS (h.grown hW).1 c hl).mono fun _ _ ⟨h1, h2, h3⟩ => ⟨h1, h2, (hF.trans (h.grown hW).2).trans h3⟩
set_option maxRecDepth 100000 in
set_option maxHeartbeats 1600000 in
theorem encS_int {B b eb : Nat} {l : List UInt8} {w : World} (h : StS B b eb l w) (v : Int) (hv : -9223372036854775808 ≤ v ∧ v ≤ 9223372036854775807) (htab : Tab B w) (hl : l.length + 21 ≤ 140737488355328) :
    Calls Tryz.prog 33 #[.pointer (some ⟨eb, 0, none⟩), .iface 3 (.int .i64 v)] w (WrS B b eb (l ++ Lib.itoa v) (.tuple #[]) w) := by
  have c0 := h.c0
  have hleb := h.leb
  obtain ⟨cur, he⟩ := h.enc
  have hsl := run_buf0 eb
  have hlen := Lib.itoa_length_le v hv.1 hv.2
  have HA := Lib.hid (show ∀ W, Touch [] w W → Calls Tryz.prog 41 #[.slice (some ⟨eb, 1, none⟩) 0 64, .int .i64 v, .int .i64 10] W (fun e w1 => Appended w eb 0 cur (Lib.itoa v) e w1 ∧ w1.cell? ⟨eb, 0, none⟩ = some (.iface 59 (.pointer (some ⟨b, 0, none⟩)))) from fun W hW =>
    (appIntPublic W eb v cur hv he.size ((hW.block eb (Lib.lt_of_heap he.row) (by simp)).trans he.row) B hleb (tab_touch htab hW (by simp))).mono (fun _ _ ⟨r1, r2, r3⟩ => ⟨⟨r1, r2, (hW.mono (by simp)).trans r3⟩, by
      simp only [World.cell?, r2]
      rw [putAt_low _ _ _ _ (by rw [he.size, bc_len]; omega) (by omega)]
      exact he.w0⟩))
  have HW := Lib.hid (show ∀ w1, w1.heap[eb]? = some (.cells (putAt cur 1 (Lib.byteCells (Lib.itoa v))) 66 (0, 0)) → Touch [eb] w w1 → Calls Tryz.prog 282 #[.pointer (some ⟨b, 0, none⟩), .slice (some ⟨eb, 1, none⟩) (Lib.itoa v).length 64] w1 (WrS B b eb (l ++ Lib.itoa v) (.tuple #[.int .i64 (Lib.itoa v).length, .nilIface]) w) from fun w1 hg ht => by
    have he1 : EncS w1 eb b (putAt cur 1 (Lib.byteCells (Lib.itoa v))) := ⟨hg, by rw [putAt_low _ _ _ _ (by rw [he.size, bc_len]; omega) (by omega)]; exact he.w0, by rw [putAt_size _ _ _ (by rw [he.size, bc_len]; omega)]; exact he.size⟩
    obtain ⟨st, fr⟩ := h.touched ht _ he1
    exact (wrS st (Lib.itoa v) 64 _ hg (fun j u hj => by
      have hjl : j < (Lib.byteCells (Lib.itoa v)).length := (List.getElem?_eq_some_iff.1 hj).1
      rw [← hj]
      exact putAt_new cur 1 _ j (by rw [he.size, bc_len]; omega) hjl) (by omega)).mono fun _ _ ⟨r1, r2, r3⟩ => ⟨r1, r2, fr.trans r3⟩)
  clear htab he h hlen
  go_enter Tryz.func33, Tryz.ntmps33
  go_wp2
  go_region_with (first
    | (go_at_call 41; refine (HA.out _ (by first | exact Touch.refl _ _ | exact (Touch.refl _ _).drewN 1)).mono ?_; rintro e w1 ⟨⟨rfl, hg1, ht1⟩, hc1⟩)
    | (go_at_call 282; refine (HW.out _ hg1 ht1).mono ?_; rintro e w' ⟨rfl, hS, hF⟩))
  all_goals go_wp2
  all_goals go_end0
  all_goals exact ⟨rfl, hS, hF⟩
end Go.Proofs.YtdkccihoecpcaaaGreatFmt
