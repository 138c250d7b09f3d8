/- Appending to the encoder's buffer in place: bytes of the call's own, and bytes that lie in a row. Conditions: there is room. -/
import Derived.Test.YtdkccihoecpcaaaGreatFmtAppInt
import Derived.Test.YtdkccihoecpcaaaGreatFmtSh
namespace Go.Proofs.YtdkccihoecpcaaaGreatFmt
open Go.RowKit Go
/-- The encoder's buffer holds l. -/
def Dst (eb : Nat) (cur : Array Value) (l : List UInt8) (w : World) : Prop := w.heap[eb]? = some (.cells (putAt cur 1 (Lib.byteCells l)) 66 (0, 0)) ∧ cur.size = 65 ∧ l.length ≤ 64
theorem dst_size {eb : Nat} {cur : Array Value} {l : List UInt8} {w : World} (h : Dst eb cur l w) : (putAt cur 1 (Lib.byteCells l)).size = 65 := by
  have := h.2.2
  rw [putAt_size _ _ _ (by rw [h.2.1, bc_len]; omega)]
  exact h.2.1
theorem dst_drewN {eb : Nat} {cur : Array Value} {l : List UInt8} {w : World} (h : Dst eb cur l w) (n : Nat) : Dst eb cur l (w.drewN n) := h
theorem dst_touch {eb : Nat} {S : List Nat} {cur : Array Value} {l : List UInt8} {w w' : World} (h : Dst eb cur l w) (ht : Touch S w w') (hn : eb ∉ S) : Dst eb cur l w' :=
  ⟨(ht.block eb (Lib.lt_of_heap h.1) hn).trans h.1, h.2⟩
theorem dst_put {eb : Nat} {cur : Array Value} {l news : List UInt8} {w : World} (h : Dst eb cur l w) (hr : l.length + news.length ≤ 64) : Dst eb cur (l ++ news) (w.setRow eb (putAt (putAt cur 1 (Lib.byteCells l)) (1 + l.length) (Lib.byteCells news))) := by
  refine ⟨?_, h.2.1, by rw [List.length_append]; exact hr⟩
  rw [setRow_heap w eb _ _ _ _ h.1]
  have e := putAt_putAt cur 1 (Lib.byteCells l) (Lib.byteCells news) (by rw [h.2.1, bc_len]; omega)
  rw [bc_len] at e
  rw [e]
  simp [Lib.byteCells]
/-- Bytes that lie somewhere are appended. -/
theorem app_dst {ops : Array Oper} {rest : List Oper} {o : Oper} {a : Act} {Q : Exit → Act → World → Prop} (hgd : o.guard = none) (sl x : Operand)
    (ho : o.op = .call { callee := .builtin .append, args := #[sl, x], argTypes := #[29, 29 ] }) (eb n m c : Nat) (sa : Addr) (cur : Array Value) (l news : List UInt8) (w : World)
    (hs : a.eval sl = .slice (some ⟨eb, 1, none⟩) n 64) (hx : a.eval x = .slice (some sa) m c) (hn : n = l.length) (hm : m = news.length) (hd : Dst eb cur l w) (hr : l.length + news.length ≤ 64)
    (hc : ∀ j u, (Lib.byteCells news)[j]? = some u → w.cell? (sa.add j) = some u)
    (h : ∀ w', Dst eb cur (l ++ news) w' → Touch [eb] w w' → wpList Tryz.prog ops Q rest (a.put o.dst (.slice (some ⟨eb, 1, none⟩) (n + m) 64)) w') : wpList Tryz.prog ops Q (o :: rest) a w := by
  obtain ⟨i, hi, hz⟩ := info_u8
  subst hn hm
  have hsz := dst_size hd
  have hap := run_append_at (P := Tryz.prog) w 29 o.type 5 66 i Tryz.underlying29 hi hz eb 1 l.length 64 _ hd.1 sa news.length c (Lib.byteCells news) (bc_len news) hc (Lib.byteCells_one _) hr (by rw [hsz]; omega)
  exact wpList_app hgd sl x 29 29 ho hs hx hap (h _ (dst_put hd hr) ((Touch.refl [eb] w).setRow eb (.inl (by simp)) _))
/-- Bytes that have just been laid in a block of their own are appended. -/
theorem app_new {ops : Array Oper} {rest : List Oper} {o : Oper} {a : Act} {Q : Exit → Act → World → Prop} (hgd : o.guard = none) (sl x : Operand)
    (ho : o.op = .call { callee := .builtin .append, args := #[sl, x], argTypes := #[29, 29 ] }) (eb n m b : Nat) (cur cs : Array Value) (t : TypeId) (l news : List UInt8) (w : World)
    (hcs : cs = (Lib.byteCells news).toArray) (hb : b = w.heap.size) (hs : a.eval sl = .slice (some ⟨eb, 1, none⟩) n 64) (hx : a.eval x = .slice (some ⟨b, 0, none⟩) m m) (hn : n = l.length) (hm : m = news.length) (hd : Dst eb cur l w) (hr : l.length + news.length ≤ 64)
    (h : ∀ w', Dst eb cur (l ++ news) w' → Touch [eb] w w' → wpList Tryz.prog ops Q rest (a.put o.dst (.slice (some ⟨eb, 1, none⟩) (n + m) 64)) w') : wpList Tryz.prog ops Q (o :: rest) a (w.alloc (.cells cs t)) := by
  subst hcs hb
  have heb : eb < w.heap.size := Lib.lt_of_heap hd.1
  refine app_dst hgd sl x ho eb n m m ⟨w.heap.size, 0, none⟩ cur l news (w.alloc (.cells (Lib.byteCells news).toArray t)) hs hx hn hm (dst_touch (S := []) hd ((Touch.refl [] w).alloc _) (by simp)) hr ?_ (fun w' h1 h2 => h w' h1 (((Touch.refl [eb] w).alloc _).trans h2))
  intro j u hj
  rw [Lib.addr_add, Nat.zero_add, World.cell?_alloc_new]
  simpa using hj
end Go.Proofs.YtdkccihoecpcaaaGreatFmt
