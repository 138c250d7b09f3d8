/- The encoder over the limited writer: what the writes leave. Conditions: none. -/
import Derived.Test.YtdkccihoecpcaaaGreatFmtLimP
import Derived.Laws.IdiomStrings
namespace Go.Proofs.YtdkccihoecpcaaaGreatFmt
open Go.RowKit Go
/-- It returns v; of what was there nothing has changed. -/
def RetB (v : Value) (w : World) (e : Ending) (w' : World) : Prop := e = .returned v ∧ Below w.heap.size w w'
theorem run_lim_text (bb : Nat) (l : List UInt8) (W : World) (h : W.heap[bb]? = some (.cells (limRow l) 5 (0, 0))) : (convert 29 9 (.slice (some ⟨bb, 0, none⟩) l.length 32)).run Tryz.prog W = .ok (.string ⟨l.toArray⟩) W := by
  refine run_convert_bytes_back W 29 9 5 ⟨bb, 0, none⟩ 32 l Tryz.underlying29 Tryz.underlying5 Tryz.underlying9 (fun j hj => ?_)
  have e : (⟨bb, 0, none⟩ : Addr).add j = ⟨bb, j, none⟩ := by simp [Addr.add] <;> omega
  rw [e]
  simp only [World.cell?, h, limRow, List.getElem?_toArray]
  rw [List.getElem?_append_left (by rw [bc_len]; exact hj)]
  simp [Lib.byteCells, hj]
@[go_sem] theorem as_f64_bool (v : Value) (w : World) : (Instr.typeAssert (.iface 22 v) 20 4 true).run Tryz.prog w = .ok (.tuple #[.bool false, .bool false]) w := by kernel_rfl
@[go_sem] theorem as_f64_int (v : Value) (w : World) : (Instr.typeAssert (.iface 22 v) 20 3 true).run Tryz.prog w = .ok (.tuple #[.int .i64 0, .bool false]) w := by kernel_rfl
@[go_sem] theorem as_f64_f64 (v : Value) (w : World) : (Instr.typeAssert (.iface 22 v) 20 22 true).run Tryz.prog w = .ok (.tuple #[v, .bool true]) w := by kernel_rfl
@[go_sem] theorem as_str_bool (v : Value) (w : World) : (Instr.typeAssert (.iface 9 v) 20 4 true).run Tryz.prog w = .ok (.tuple #[.bool false, .bool false]) w := by kernel_rfl
@[go_sem] theorem as_str_int (v : Value) (w : World) : (Instr.typeAssert (.iface 9 v) 20 3 true).run Tryz.prog w = .ok (.tuple #[.int .i64 0, .bool false]) w := by kernel_rfl
@[go_sem] theorem as_str_f64 (v : Value) (w : World) : (Instr.typeAssert (.iface 9 v) 20 22 true).run Tryz.prog w = .ok (.tuple #[.float .f64 0, .bool false]) w := by kernel_rfl
@[go_sem] theorem as_str_big (v : Value) (w : World) : (Instr.typeAssert (.iface 9 v) 20 84 true).run Tryz.prog w = .ok (.tuple #[.pointer none, .bool false]) w := by kernel_rfl
@[go_sem] theorem as_str_num (v : Value) (w : World) : (Instr.typeAssert (.iface 9 v) 20 86 true).run Tryz.prog w = .ok (.tuple #[.string ByteArray.empty, .bool false]) w := by kernel_rfl
@[go_sem] theorem as_str_str (v : Value) (w : World) : (Instr.typeAssert (.iface 9 v) 20 9 true).run Tryz.prog w = .ok (.tuple #[v, .bool true]) w := by kernel_rfl
@[go_sem] theorem lim_wb0 (d : Nat) (a : Addr) (w : World) : (method (d + 1) 112 (.pointer (some a)) "WriteByte").run Tryz.prog w = .ok (302, .pointer (some a)) w := by kernel_rfl
/-- Block b is a limited writer that the call has made (from B on), with room; it holds l. -/
def BldL (B b : Nat) (l : List UInt8) (w : World) : Prop := B ≤ b ∧ ∃ bb, B ≤ bb ∧ Lim w b bb l
theorem bldEncL : (114 : Nat) ≠ 66 := by decide
theorem bldTagL : (114 : Nat) ≠ 5 := by decide
theorem bld_lt {B b : Nat} {l : List UInt8} {w : World} (h : BldL B b l w) : l.length < 32 := by
  obtain ⟨_, bb, _, h⟩ := h
  exact h.lt
theorem bld_carryL {B b : Nat} {l : List UInt8} {w w' : World} (h : BldL B b l w) (hb : w'.heap[b]? = w.heap[b]?) (hk : ∀ (k : Nat) c fz, w.heap[k]? = some (.cells c 5 fz) → w'.heap[k]? = w.heap[k]?) : BldL B b l w' := by
  obtain ⟨hB, bb, hBb, h⟩ := h
  exact ⟨hB, bb, hBb, hb.trans h.head, (hk bb _ _ h.row).trans h.row, h.ne, h.lt⟩
theorem bld_headL {B b : Nat} {l : List UInt8} {w : World} (h : BldL B b l w) : ∃ cs, w.heap[b]? = some (.cells cs 114 (0, 0)) := by
  obtain ⟨_, bb, _, h⟩ := h
  exact ⟨_, h.head⟩
/-- Block eb is an encoder over the writer b. -/
structure EncL (w : World) (eb b : Nat) (cur : Array Value) : Prop where
  row : w.heap[eb]? = some (.cells cur 66 (0, 0))
  w0 : cur[0]? = some (.iface 112 (.pointer (some ⟨b, 0, none⟩)))
  size : cur.size = 65
/-- The writer b holds l; block eb is an encoder over it; both are the call's own. -/
structure StL (B b eb : Nat) (l : List UInt8) (w : World) : Prop where
  bld : BldL B b l w
  enc : ∃ cur, EncL w eb b cur
  leb : B ≤ eb
  lew : B ≤ w.heap.size
theorem StL.ne {B b eb : Nat} {l : List UInt8} {w : World} (h : StL B b eb l w) : eb ≠ b := by
  obtain ⟨cs, hb⟩ := bld_headL h.bld
  obtain ⟨cur, he⟩ := h.enc
  intro e
  rw [e] at he
  have := hb.symm.trans he.row
  simp only [Option.some.injEq, Obj.cells.injEq] at this
  exact bldEncL this.2.1
theorem StL.c0 {B b eb : Nat} {l : List UInt8} {w : World} (h : StL B b eb l w) : w.cell? ⟨eb, 0, none⟩ = some (.iface 112 (.pointer (some ⟨b, 0, none⟩))) := by
  obtain ⟨cur, he⟩ := h.enc
  simp [World.cell?, he.row, he.w0]
theorem enc_no_rowL (cur c : Array Value) (fz : Nat × Nat) : Obj.cells cur 66 (0, 0) ≠ .cells c 5 fz := by
  intro e
  simp only [Obj.cells.injEq] at e
  exact encTag e.2.1
theorem others_of_touch {b bb : Nat} {l : List UInt8} {w w' : World} (h : Lim w b bb l) (ht : Touch [b, bb] w w') : Lib.OthersKept 5 (some b) w w' := by
  intro k o ho hb hc
  have hk : k ∉ [b, bb] := by
    intro hm
    simp only [List.mem_cons, List.not_mem_nil, or_false] at hm
    rcases hm with e | e
    · exact hb (by rw [e])
    · rw [e, h.row] at ho
      exact hc _ _ (Option.some.inj ho).symm
  exact (ht.block k (Lib.lt_of_heap ho) hk).trans ho
/-- A write has gone to b. -/
theorem StL.step {B b eb : Nat} {l l' : List UInt8} {w w' : World} (h : StL B b eb l w) (hb : BldL B b l' w') (hl : Below B w w') (ho : Lib.OthersKept 5 (some b) w w') : StL B b eb l' w' ∧ Fr B b eb w w' := by
  have hne := h.ne
  obtain ⟨cur, he⟩ := h.enc
  exact ⟨⟨hb, ⟨cur, ho eb _ he.row (fun e => hne (Option.some.inj e)) (fun c fz => enc_no_rowL cur c fz), he.w0, he.size⟩, h.leb, Nat.le_trans h.lew hl.size⟩, Fr.of_k hl ho⟩
/-- New blocks alone. -/
theorem StL.grown {B b eb : Nat} {l : List UInt8} {w w' : World} (h : StL B b eb l w) (hb : Below w.heap.size w w') : StL B b eb l w' ∧ Fr B b eb w w' := by
  obtain ⟨cur, he⟩ := h.enc
  obtain ⟨cs, hh⟩ := bld_headL h.bld
  exact ⟨⟨bld_carryL h.bld (hb.block b (Lib.lt_of_heap hh)) (fun k c fz hk => hb.block k (Lib.lt_of_heap hk)), ⟨cur, (hb.block eb (Lib.lt_of_heap he.row)).trans he.row, he.w0, he.size⟩, h.leb, Nat.le_trans h.lew hb.size⟩, Fr.of_below h.lew hb⟩
theorem StL.drewN {B b eb : Nat} {l : List UInt8} {w : World} (h : StL B b eb l w) (n : Nat) : StL B b eb l (w.drewN n) := (h.grown (w' := w.drewN n) ⟨rfl, rfl, rfl, Nat.le_refl _, fun _ _ => rfl⟩).1
/-- The encoder's own row has changed. -/
theorem StL.touched {B b eb : Nat} {l : List UInt8} {w w' : World} (h : StL B b eb l w) (ht : Touch [eb] w w') (cur : Array Value) (he' : EncL w' eb b cur) : StL B b eb l w' ∧ Fr B b eb w w' := by
  have hne := h.ne
  obtain ⟨cur0, he⟩ := h.enc
  obtain ⟨cs, hh⟩ := bld_headL h.bld
  refine ⟨⟨bld_carryL h.bld (ht.block b (Lib.lt_of_heap hh) (by simpa using fun e => hne e.symm)) (fun k c fz hk => ht.block k (Lib.lt_of_heap hk) ?_), ⟨cur, he'⟩, h.leb, Nat.le_trans h.lew ht.size⟩, Fr.of_touch h.leb h.lew ht⟩
  simp only [List.mem_singleton]
  rintro rfl
  rw [he.row] at hk
  exact enc_no_rowL cur0 c fz (Option.some.inj hk)
/-- What a write leaves. -/
def WrL (B b eb : Nat) (l : List UInt8) (v : Value) (w : World) (e : Ending) (w' : World) : Prop := e = .returned v ∧ StL B b eb l w' ∧ Fr B b eb w w'
/-- What a write leaves that fills the writer: the first 32 bytes of the whole text T. -/
def DieL (B b eb : Nat) (T : List UInt8) (w : World) (e : Ending) (w' : World) : Prop := e = .panicked [{ v := PVL, recovered := false }] ∧ 32 ≤ T.length ∧ (∃ bb, B ≤ bb ∧ LimD w' b bb (T.take 32)) ∧ Fr B b eb w w'
def WoD (B b eb : Nat) (T l : List UInt8) (v : Value) (w : World) (e : Ending) (w' : World) : Prop := WrL B b eb l v w e w' ∨ DieL B b eb T w e w'
theorem pre_cut {A T : List UInt8} (h : A <+: T) (h32 : 32 ≤ A.length) : A.take 32 = T.take 32 ∧ 32 ≤ T.length := by
  obtain ⟨R, rfl⟩ := h
  rw [List.take_append_of_le_length h32]
  exact ⟨rfl, by rw [List.length_append]; omega⟩
theorem st_wrote {B b eb : Nat} {l l' : List UInt8} {w w' : World} (h : StL B b eb l w) (bb : Nat) (hbb : B ≤ bb) (hl : Lim w b bb l) (hl' : Lim w' b bb l') (ht : Touch [b, bb] w w') : StL B b eb l' w' ∧ Fr B b eb w w' :=
  h.step ⟨h.bld.1, bb, hbb, hl'⟩ (ht.below (by intro x hx; simp only [List.mem_cons, List.not_mem_nil, or_false] at hx; rcases hx with rfl | rfl; exact h.bld.1; exact hbb) h.lew) (others_of_touch hl ht)
theorem fr_wrote {B b eb : Nat} {l : List UInt8} {w w' : World} (h : StL B b eb l w) (bb : Nat) (hbb : B ≤ bb) (hl : Lim w b bb l) (ht : Touch [b, bb] w w') : Fr B b eb w w' :=
  Fr.of_k (ht.below (by intro x hx; simp only [List.mem_cons, List.not_mem_nil, or_false] at hx; rcases hx with rfl | rfl; exact h.bld.1; exact hbb) h.lew) (others_of_touch hl ht)
theorem wsL {B b eb : Nat} {l T : List UInt8} {w : World} (h : StL B b eb l w) (s : ByteArray) (hp : l ++ s.data.toList <+: T) :
    Calls Tryz.prog 303 #[.pointer (some ⟨b, 0, none⟩), .string s] w (WoD B b eb T (l ++ s.data.toList) (.tuple #[.int .i64 s.size, .nilIface]) w) := by
  obtain ⟨hB, bb, hbb, hl⟩ := h.bld
  have hsz : s.data.toList.length = s.size := by rw [Array.length_toList]; rfl
  by_cases hs : l.length + s.size < 32
  · exact (lim_writeString w b bb l s hl hs).mono fun _ _ ⟨h1, h2, h3⟩ => Or.inl ⟨h1, (st_wrote h bb hbb hl h2 h3).1, (st_wrote h bb hbb hl h2 h3).2⟩
  · obtain ⟨e1, e2⟩ := pre_cut hp (by rw [List.length_append, hsz]; omega)
    exact (lim_wsD w b bb l s hl (by omega)).mono fun _ _ ⟨h1, h2, h3⟩ => Or.inr ⟨h1, e2, ⟨bb, hbb, by rw [← e1]; exact h2⟩, fr_wrote h bb hbb hl h3⟩
theorem wbL {B b eb : Nat} {l T : List UInt8} {w : World} (h : StL B b eb l w) (c : UInt8) (hp : l ++ [c] <+: T) :
    Calls Tryz.prog 302 #[.pointer (some ⟨b, 0, none⟩), .int .u8 (c.toNat : Int)] w (WoD B b eb T (l ++ [c]) .nilIface w) := by
  obtain ⟨hB, bb, hbb, hl⟩ := h.bld
  have hlt := hl.lt
  by_cases hs : l.length + 1 < 32
  · exact (lim_wb w b bb l c hl hs).mono fun _ _ ⟨h1, h2, h3⟩ => Or.inl ⟨h1, (st_wrote h bb hbb hl h2 h3).1, (st_wrote h bb hbb hl h2 h3).2⟩
  · obtain ⟨e1, e2⟩ := pre_cut hp (by rw [List.length_append, List.length_singleton]; omega)
    have e3 : (l ++ [c]).take 32 = l ++ [c] := List.take_of_length_le (by rw [List.length_append, List.length_singleton]; omega)
    exact (lim_wbD w b bb l c hl (by omega)).mono fun _ _ ⟨h1, h2, h3⟩ => Or.inr ⟨h1, e2, ⟨bb, hbb, by rw [← e1, e3]; exact h2⟩, fr_wrote h bb hbb hl h3⟩
theorem wrL0 {B b eb : Nat} {l : List UInt8} {w : World} (h : StL B b eb l w) (s : List UInt8) (c : Nat) (cur : Array Value) (hrow : w.heap[eb]? = some (.cells cur 66 (0, 0))) (hsrc : ∀ j u, (Lib.byteCells s)[j]? = some u → cur[1 + j]? = some u) (hl : l.length + s.length < 32) :
    Calls Tryz.prog 301 #[.pointer (some ⟨b, 0, none⟩), .slice (some ⟨eb, 1, none⟩) s.length c] w (WrL B b eb (l ++ s) (.tuple #[.int .i64 s.length, .nilIface]) w) := by
  obtain ⟨hB, bb, hbb, hlm⟩ := h.bld
  exact (lim_write w b bb l s ⟨eb, 1, none⟩ c hlm hl (fun j u hj => by rw [Lib.addr_add, Lib.cell_of_heap hrow]; exact hsrc j u hj)).mono fun _ _ ⟨h1, h2, h3⟩ => ⟨h1, (st_wrote h bb hbb hlm h2 h3).1, (st_wrote h bb hbb hlm h2 h3).2⟩
theorem wsL0 {B b eb : Nat} {l : List UInt8} {w : World} (h : StL B b eb l w) (s : ByteArray) (hs : l.length + s.size < 32) :
    Calls Tryz.prog 303 #[.pointer (some ⟨b, 0, none⟩), .string s] w (WrL B b eb (l ++ s.data.toList) (.tuple #[.int .i64 s.size, .nilIface]) w) := by
  obtain ⟨hB, bb, hbb, hl⟩ := h.bld
  exact (lim_writeString w b bb l s hl hs).mono fun _ _ ⟨h1, h2, h3⟩ => ⟨h1, (st_wrote h bb hbb hl h2 h3).1, (st_wrote h bb hbb hl h2 h3).2⟩
theorem wbL0 {B b eb : Nat} {l : List UInt8} {w : World} (h : StL B b eb l w) (c : UInt8) (hs : l.length + 1 < 32) :
    Calls Tryz.prog 302 #[.pointer (some ⟨b, 0, none⟩), .int .u8 (c.toNat : Int)] w (WrL B b eb (l ++ [c]) .nilIface w) := by
  obtain ⟨hB, bb, hbb, hl⟩ := h.bld
  exact (lim_wb w b bb l c hl hs).mono fun _ _ ⟨h1, h2, h3⟩ => ⟨h1, (st_wrote h bb hbb hl h2 h3).1, (st_wrote h bb hbb hl h2 h3).2⟩
theorem wod_frame {B b eb : Nat} {T l : List UInt8} {v : Value} {w0 w' : World} {e : Ending} (h : WoD B b eb T l v w0 e w') : Fr B b eb w0 w' := by
  rcases h with ⟨_, _, h3⟩ | ⟨_, _, _, h4⟩
  · exact h3
  · exact h4
theorem wod_fr {B b eb : Nat} {T l : List UInt8} {v : Value} {w0 w w' : World} {e : Ending} (hF : Fr B b eb w0 w) (h : WoD B b eb T l v w e w') : WoD B b eb T l v w0 e w' := by
  rcases h with ⟨h1, h2, h3⟩ | ⟨h1, h2, h3, h4⟩
  · exact Or.inl ⟨h1, h2, hF.trans h3⟩
  · exact Or.inr ⟨h1, h2, h3, hF.trans h4⟩
/-- The writes, from a world in which nothing but new blocks have come since. -/
theorem wsFromL {B b eb : Nat} {l T : List UInt8} {w0 w : World} (h : StL B b eb l w) (hF : Fr B b eb w0 w) (s : ByteArray) (hp : l ++ s.data.toList <+: T) (W : World) (hW : Below w.heap.size w W) :
    Calls Tryz.prog 303 #[.pointer (some ⟨b, 0, none⟩), .string s] W (WoD B b eb T (l ++ s.data.toList) (.tuple #[.int .i64 s.size, .nilIface]) w0) :=
  (wsL (h.grown hW).1 s hp).mono fun _ _ hh => wod_fr (hF.trans (h.grown hW).2) hh
theorem wbFromL {B b eb : Nat} {l T : List UInt8} {w0 w : World} (h : StL B b eb l w) (hF : Fr B b eb w0 w) (c : UInt8) (hp : l ++ [c] <+: T) (W : World) (hW : Below w.heap.size w W) :
    Calls Tryz.prog 302 #[.pointer (some ⟨b, 0, none⟩), .int .u8 (c.toNat : Int)] W (WoD B b eb T (l ++ [c]) .nilIface w0) :=
  (wbL (h.grown hW).1 c hp).mono fun _ _ hh => wod_fr (hF.trans (h.grown hW).2) hh
end Go.Proofs.YtdkccihoecpcaaaGreatFmt
