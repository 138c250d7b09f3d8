/- Rows of bytes that the call owns: appending to them, comparing them. Conditions: at most 2 to the 47 bytes. -/
import Derived.Test.YtdkccihoecpcaaaGreatFmtApp
import Derived.Laws.AppendOwn
import Derived.Laws.OwnMore
namespace Go.Proofs.YtdkccihoecpcaaaGreatFmt
open Go.RowKit Go
/-- v is a row of the call's own (from B on) that holds l. -/
def Own (B : Nat) (v : Value) (l : List UInt8) (w : World) : Prop := w.ownsRow B 5 1 v l.length (Lib.byteCells l)
theorem info_byte : (Tryz.prog.info? 5).map (fun i => (i.zero, i.size, i.bytes)) = some (some (.int .u8 0), 1, 1) := by kernel_rfl
theorem byteCells_app' (l s : List UInt8) : Lib.byteCells l ++ Lib.byteCells s = Lib.byteCells (l ++ s) := by simp [Lib.byteCells]
theorem own_old {B : Nat} {v : Value} {l : List UInt8} {w w' : World} (h : Own B v l w) (hb : Below w.heap.size w w') : Own B v l w' :=
  ⟨h.1, h.2.imp_right fun ⟨g, cap, cur, hv, hB, hg, r⟩ => ⟨g, cap, cur, hv, hB, (hb.block g (Lib.lt_of_heap hg)).trans hg, r⟩⟩
theorem own_drewN {B : Nat} {v : Value} {l : List UInt8} {w : World} (h : Own B v l w) (n : Nat) : Own B v l (w.drewN n) := h
theorem own_nil (B : Nat) (w : World) : Own B (.slice none 0 0) [] w := World.ownsRow_nil _ _ _ _
theorem own_cell {B : Nat} {ao : Option Addr} {n c : Nat} {l : List UInt8} {w : World} (h : Own B (.slice ao n c) l w) (k : Nat) (hk : k < l.length) : ∃ g, ao = some ⟨g, 0, none⟩ ∧ w.cell? ⟨g, k, none⟩ = some (.int .u8 ((l[k]'hk).toNat : Int)) := by
  rcases h.2 with ⟨_, h0⟩ | ⟨g, cap, cur, hv, hB, hg, _, _, _, ht⟩
  · omega
  · simp only [Value.slice.injEq] at hv
    refine ⟨g, hv.1, ?_⟩
    rw [Lib.cell_of_heap hg, ← Array.getElem?_toList]
    have e : (cur.toList.take (l.length * 1))[k]? = (Lib.byteCells l)[k]? := by rw [ht]
    rw [List.getElem?_take, if_pos (by omega)] at e
    rw [e]
    simp [Lib.byteCells, hk]
theorem own_len {B : Nat} {ao : Option Addr} {n c : Nat} {l : List UInt8} {w : World} (h : Own B (.slice ao n c) l w) : n = l.length := by
  rcases h.2 with ⟨hv, h0⟩ | ⟨g, cap, cur, hv, _⟩
  · simp only [Value.slice.injEq] at hv; omega
  · simp only [Value.slice.injEq] at hv; exact hv.2.1
theorem own_slice {B : Nat} {v : Value} {l : List UInt8} {w : World} (h : Own B v l w) : ∃ ao c, v = .slice ao l.length c := by
  rcases h.2 with ⟨hv, h0⟩ | ⟨g, cap, cur, hv, _⟩
  · exact ⟨none, 0, by rw [h0]; exact hv⟩
  · exact ⟨_, _, hv⟩
/-- Bytes that have just been laid in a block of their own are appended. -/
theorem app_bytes {ops : Array Oper} {rest : List Oper} {o : Oper} {a : Act} {Q : Exit → Act → World → Prop} (hgd : o.guard = none) (sl x : Operand)
    (ho : o.op = .call { callee := .builtin .append, args := #[sl, x], argTypes := #[29, 29 ] }) (B : Nat) (w : World) (v : Value) (l news : List UInt8) (cs : Array Value) (t : TypeId) (m : Nat) (b : Nat)
    (hcs : cs = (Lib.byteCells news).toArray) (hm : m = news.length) (hb : b = w.heap.size) (hs : a.eval sl = v) (hx : a.eval x = .slice (some ⟨b, 0, none⟩) m m)
    (hown : Own B v l w) (hB : B ≤ w.heap.size) (hlim : l.length + news.length ≤ 140737488355328)
    (h : ∀ v' w', Own B v' (l ++ news) w' → Below B w w' → wpList Tryz.prog ops Q rest (a.put o.dst v') w') : wpList Tryz.prog ops Q (o :: rest) a (w.alloc (.cells cs t)) := by
  obtain ⟨i0, hi, hz0, hz1, hz2⟩ := info_parts info_byte
  subst hcs hm hb
  refine wpList_append_own _ hgd sl x 29 ho B 5 i0 (.int .u8 0) 1 1 Tryz.underlying29 hi hz0 hz1 hz2 rfl (by decide) v l.length (Lib.byteCells l) hs (World.ownsRow.alloc hown _) ⟨w.heap.size, 0, none⟩ news.length news.length (Lib.byteCells news) hx (by rw [bc_len, Nat.mul_one]) ?_ (Lib.byteCells_one _) (by unfold maxLen; omega) (by omega) (by simp; omega) ?_
  · intro j u hj
    rw [Lib.addr_add, Nat.zero_add, World.cell?_alloc_new]
    simpa using hj
  · intro v' w' hown' hgrow _
    refine h v' w' ?_ ?_
    · unfold Own
      rw [List.length_append, ← byteCells_app']
      exact hown'
    · exact ((Below.refl B w).alloc hB _).grown hgrow (by simp; omega) (fun k hk => (World.ownsRow.lt (World.ownsRow.alloc hown (.cells (Lib.byteCells news).toArray t)) k hk).1)
set_option maxRecDepth 100000 in
set_option maxHeartbeats 1600000 in
/-- A string and a row that hold the same. -/
theorem sameSB (B : Nat) (s : ByteArray) (l : List UInt8) (v : Value) (w : World) (hs : s.data.toList = l) (hl : l.length ≤ 140737488355328) (h : Own B v l w) :
    Calls Tryz.prog 25 #[.string s, v] w fun e w' => e = .returned (.bool true) ∧ ∃ n, w' = w.drewN n := by
  obtain ⟨ao, c, rfl⟩ := own_slice h
  have hsz : s.size = l.length := by rw [Lib.size_eq, hs]
  have HC := Lib.hid (show ∀ k (hk : k < s.size), ∃ g, ao = some ⟨g, 0, none⟩ ∧ w.cell? ⟨g, k, none⟩ = some (.int .u8 ((s[k]'hk).toNat : Int)) from fun k hk => by
    obtain ⟨g, hg, hc⟩ := own_cell h k (by omega)
    refine ⟨g, hg, ?_⟩
    rw [hc]
    have e : l[k]'(by omega) = s[k]'hk := by
      simp only [← hs]
      rfl
    rw [e])
  have hsb : s.size ≤ 140737488355328 := by omega
  rw [← hsz]
  clear hsz h hs hl
  go_enter Tryz.func25, Tryz.ntmps25
  go_wp2
  go_loopw [5] (fun i wr => ∃ (k nq : Nat), k ≤ s.size ∧ i = .int .i64 k ∧ wr = w.drewN nq) (fun i _ => s.size - (intOf i).toNat)
  case atStart => exact ⟨0, 0, Nat.zero_le _, rfl, rfl⟩
  case round =>
    obtain ⟨k, nq, hk, rfl, rfl⟩ := hrel
    by_cases hlt : k < s.size
    · obtain ⟨g, rfl, hc⟩ := HC.out k hlt
      go_wp2
      go_quiet (fail)
      go_wp2
      go_roundw
      case rel => exact ⟨k + 1, _, by omega, by go_num, rfl⟩
      case measure => simp [intOf]; omega
    · go_wp2
      go_ret
      exact ⟨rfl, _, rfl⟩
set_option maxRecDepth 100000 in
set_option maxHeartbeats 1600000 in
/-- Two rows that hold the same. -/
theorem sameBB (B C : Nat) (l : List UInt8) (u v : Value) (w : World) (hl : l.length ≤ 140737488355328) (h : Own B u l w) (h2 : Own C v l w) :
    Calls Tryz.prog 16 #[u, v] w fun e w' => e = .returned (.bool true) ∧ ∃ n, w' = w.drewN n := by
  obtain ⟨ao, c, rfl⟩ := own_slice h
  obtain ⟨bo, d, rfl⟩ := own_slice h2
  have HC := Lib.hid (show ∀ k (hk : k < l.length), ∃ g, ao = some ⟨g, 0, none⟩ ∧ w.cell? ⟨g, k, none⟩ = some (.int .u8 ((l[k]'hk).toNat : Int)) from fun k hk => own_cell h k hk)
  have HD := Lib.hid (show ∀ k (hk : k < l.length), ∃ g, bo = some ⟨g, 0, none⟩ ∧ w.cell? ⟨g, k, none⟩ = some (.int .u8 ((l[k]'hk).toNat : Int)) from fun k hk => own_cell h2 k hk)
  clear h h2
  go_enter Tryz.func16, Tryz.ntmps16
  go_wp2
  go_loopw [5] (fun i wr => ∃ (k nq : Nat), k ≤ l.length ∧ i = .int .i64 k ∧ wr = w.drewN nq) (fun i _ => l.length - (intOf i).toNat)
  case atStart => exact ⟨0, 0, Nat.zero_le _, rfl, rfl⟩
  case round =>
    obtain ⟨k, nq, hk, rfl, rfl⟩ := hrel
    by_cases hlt : k < l.length
    · obtain ⟨g, rfl, hc⟩ := HC.out k hlt
      obtain ⟨g2, rfl, hd⟩ := HD.out k hlt
      generalize l[k] = x at hc hd
      go_wp2
      go_quiet (fail)
      go_wp2
      go_roundw
      case rel => exact ⟨k + 1, _, by omega, by go_num, rfl⟩
      case measure => simp [intOf]; omega
    · go_wp2
      go_ret
      exact ⟨rfl, _, rfl⟩
end Go.Proofs.YtdkccihoecpcaaaGreatFmt
