/- Appending in place, to a part of a row of whatever kind. Conditions: there is room. -/
import Derived.Test.YtdkccihoecpcaaaGreatFmtTouch
import Derived.Lib.AppendStr
import Derived.Lib.AppendIntMem
import Derived.OwnWalk
namespace Go.Proofs.YtdkccihoecpcaaaGreatFmt
open Go.RowKit Go
/-- The row with news laid from place o on. -/
def putAt (cur : Array Value) (o : Nat) (news : List Value) : Array Value := (cur.toList.take o ++ news ++ cur.toList.drop (o + news.length)).toArray
theorem putAt_size (cur : Array Value) (o : Nat) (news : List Value) (h : o + news.length ≤ cur.size) : (putAt cur o news).size = cur.size := by simp [putAt]; omega
theorem putAt_low (cur : Array Value) (o : Nat) (news : List Value) (j : Nat) (h : o + news.length ≤ cur.size) (hj : j < o) : (putAt cur o news)[j]? = cur[j]? := by
  simp only [putAt, List.getElem?_toArray]
  rw [List.append_assoc, List.getElem?_append_left (by simp; omega), List.getElem?_take, if_pos hj]
  simp
theorem putAt_new (cur : Array Value) (o : Nat) (news : List Value) (j : Nat) (h : o + news.length ≤ cur.size) (hj : j < news.length) : (putAt cur o news)[o + j]? = news[j]? := by
  have e : (cur.toList.take o).length = o := by simp; omega
  simp only [putAt, List.getElem?_toArray]
  rw [List.append_assoc, List.getElem?_append_right (by omega), e, List.getElem?_append_left (by omega)]
  congr 1
  omega
theorem run_append_at {P : Program} (w : World) (t ty e et : TypeId) (i : TypeInfo) (ht : P.underlying t = some (.slice e)) (hi : P.info? e = some i) (hz : i.size = 1) (g o n cap : Nat) (cur : Array Value) (hg : w.heap[g]? = some (.cells cur et (0, 0)))
    (a : Addr) (m c : Nat) (news : List Value) (hl : news.length = m) (hnews : ∀ j u, news[j]? = some u → w.cell? (a.add j) = some u) (h1 : ∀ u ∈ news, u.oneCell' = true) (hroom : n + m ≤ cap) (hfit : o + n + m ≤ cur.size) :
    (Builtin.append_ #[t, t] ty #[.slice (some ⟨g, o, none⟩) n cap, .slice (some a) m c]).run P w = .ok (.slice (some ⟨g, o, none⟩) (n + m) cap) (w.setRow g (putAt cur (o + n) news)) := by
  have hf := run_firstCells_some (P := P) w i.size m a m c news (by rw [hz, Nat.mul_one]; exact hl) hnews
  have hst := run_storeCells_at P g (o + n) et news 0 cur w hg (by omega) h1
  simp only [Nat.add_zero] at hst
  have ea : (⟨g, o, none⟩ : Addr).add n = ⟨g, o + n, none⟩ := by simp [Addr.add]
  rw [hz] at hf
  simp [Builtin.append_, run_underlying ht, sizeOf, typeInfo, hi, hz, Builtin.lenOf, hroom, hf, ea, hst, putAt]
theorem run_append_at_string {P : Program} (w : World) (t u ty e et : TypeId) (i : TypeInfo) (ht : P.underlying t = some (.slice e)) (hu : P.underlying u = some .string) (hi : P.info? e = some i) (hz : i.size = 1) (g o n cap : Nat) (cur : Array Value) (hg : w.heap[g]? = some (.cells cur et (0, 0)))
    (s : ByteArray) (hroom : n + s.size ≤ cap) (hfit : o + n + s.size ≤ cur.size) :
    (Builtin.append_ #[t, u] ty #[.slice (some ⟨g, o, none⟩) n cap, .string s]).run P w = .ok (.slice (some ⟨g, o, none⟩) (n + s.size) cap) (w.setRow g (putAt cur (o + n) (Lib.strCells s))) := by
  have hf := Lib.run_firstCells_string (P := P) w 1 s
  have hst := run_storeCells_at P g (o + n) et (Lib.strCells s) 0 cur w hg (by simpa [Lib.strCells_length] using hfit) (Lib.strCells_oneCell s)
  simp only [Nat.add_zero, Lib.strCells_length] at hst
  have ea : (⟨g, o, none⟩ : Addr).add n = ⟨g, o + n, none⟩ := by simp [Addr.add]
  simp [Builtin.append_, run_underlying ht, run_underlying hu, sizeOf, typeInfo, hi, hz, Builtin.lenOf, hroom, hf, ea, hst, putAt, Lib.strCells_length]
theorem wpList_app {P : Program} {w : World} {ops : Array Oper} {rest : List Oper} {o : Oper} {a : Act} {Q : Exit → Act → World → Prop} (hgd : o.guard = none) (sl x : Operand) (t u : TypeId)
    (ho : o.op = .call { callee := .builtin .append, args := #[sl, x], argTypes := #[t, u] }) {sv xv v : Value} {w1 : World} (hs : a.eval sl = sv) (hx : a.eval x = xv)
    (hr : (Builtin.append_ #[t, u] o.type #[sv, xv]).run P w = .ok v w1) (h : wpList P ops Q rest (a.put o.dst v) w1) : wpList P ops Q (o :: rest) a w := by
  refine wpList_plain hgd fun K hK => ?_
  unfold Oper.wp execOp
  simp only [ho, resolve, invoke, builtin, Sem.run_bind, Sem.run_pure, Result.andThen_ok, List.map_toArray, List.map_cons, List.map_nil, hs, hx, hr]
  exact hK _ _ h
theorem Touch.of_below {w w' : World} (h : Below w.heap.size w w') : Touch [] w w' := ⟨h.os, h.tape, h.output, h.size, fun k hk _ => h.block k hk⟩
theorem info_u8 : ∃ i, Tryz.prog.info? 5 = some i ∧ i.size = 1 := by
  have h : (Tryz.prog.info? 5).map (·.size) = some 1 := by kernel_rfl
  cases e : Tryz.prog.info? 5 with
  | none => rw [e] at h; simp at h
  | some j => rw [e] at h; simp at h; exact ⟨j, rfl, h⟩
end Go.Proofs.YtdkccihoecpcaaaGreatFmt
