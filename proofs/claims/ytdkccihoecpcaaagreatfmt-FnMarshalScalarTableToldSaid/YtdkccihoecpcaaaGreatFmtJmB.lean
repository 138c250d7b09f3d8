/- Marshal: what it returns, from what the encoder writes. Conditions: at most 2 to the 47 bytes. -/
import Derived.Test.YtdkccihoecpcaaaGreatFmtBldB
namespace Go.Proofs.YtdkccihoecpcaaaGreatFmt
open Go.RowKit Go
theorem heap_atB (w : World) (cs : Array Value) (t : TypeId) {b : Nat} (h : b = w.heap.size) : (w.alloc (.cells cs t)).heap[b]? = some (.cells cs t (0, 0)) := by
  subst h
  exact heap_alloc_new w _
/-- What the encoder writes at v, whatever the writer holds none of. -/
def WritesB (w : World) (v : Value) (l : List UInt8) : Prop := ∀ (w0 : World) (b eb : Nat), Below w.heap.size w w0 → StB w.heap.size b eb [] w0 →
  Calls Tryz.prog 33 #[.pointer (some ⟨eb, 0, none⟩), v] w0 (WrB w.heap.size b eb l (.tuple #[]) w0)
theorem st_newB (w : World) (cur : Array Value) (h0 : cur[0]? = some (.iface 77 (.pointer (some ⟨w.heap.size, 0, none⟩)))) (h1 : cur.size = 65) :
    StB w.heap.size w.heap.size (w.heap.size + 1) [] ((w.alloc (.cells #[.slice none 0 0, .int .i64 0, .int .i8 0] 76)).alloc (.cells cur 66)) := by
  refine ⟨?_, ⟨cur, heap_atB _ _ _ (by simp), h0, h1⟩, by omega, by simp; omega⟩
  exact (Lib.fresh_isBuffer 76 5 w).alloc _
set_option maxRecDepth 100000 in
set_option maxHeartbeats 1600000 in
theorem jmB (v : Value) (l : List UInt8) (w : World) (henc : WritesB w v l) : Calls Tryz.prog 32 #[v] w fun e w' => (∃ u, e = .returned (.tuple #[u, .nilIface]) ∧ w'.ownsRow w.heap.size 5 1 u l.length (Lib.byteCells l)) ∧ Below w.heap.size w w' := by
  have HE := Lib.hid henc
  clear henc
  go_enter Tryz.func32, Tryz.ntmps32
  go_wp2_with fail
  have hzs : (Tryz.zeroCells66).size = 65 := by kernel_rfl
  refine (HE.out _ w.heap.size (w.heap.size + 1) ?_ (st_newB w (Tryz.zeroCells66.setIfInBounds 0 (.iface 77 (.pointer (some ⟨w.heap.size, 0, none⟩)))) (by simp [hzs]) (by simp [hzs]))).mono ?_
  · exact ((Below.refl _ _).alloc (Nat.le_refl _) _).alloc (by simp) _
  rintro e w1 ⟨rfl, hS, hF⟩
  have hB := ((((Below.refl w.heap.size w).alloc (Nat.le_refl _) (.cells #[.slice none 0 0, .int .i64 0, .int .i8 0] 76)).alloc (by simp) (.cells (Tryz.zeroCells66.setIfInBounds 0 (.iface 77 (.pointer (some ⟨w.heap.size, 0, none⟩)))) 66))).trans hF.below
  have HS := Lib.hid hS
  have HB := Lib.hid hB
  clear hS hF hB hzs
  go_wp2_with (go_at_call 40; refine (Tryz.Buffer_Bytes w.heap.size w.heap.size (Lib.byteCells l) _ HS.out.bld).mono ?_; rintro e w2 ⟨u, rfl, hown, n, rfl⟩)
  go_ret2
  exact ⟨⟨u, rfl, by rw [bc_len] at hown; exact hown⟩, HB.out.trans ⟨rfl, rfl, rfl, Nat.le_refl _, fun _ _ => rfl⟩⟩
end Go.Proofs.YtdkccihoecpcaaaGreatFmt
