/- jsonMarshal: what it returns, from what the encoder writes. Conditions: at most 2 to the 47 bytes. -/
import Derived.Test.YtdkccihoecpcaaaGreatFmtBldS
namespace Go.Proofs.YtdkccihoecpcaaaGreatFmt
open Go.RowKit Go
theorem heap_atS (w : World) (cs : Array Value) (t : TypeId) {b : Nat} (h : b = w.heap.size) : (w.alloc (.cells cs t)).heap[b]? = some (.cells cs t (0, 0)) := by
  subst h
  exact heap_alloc_new w _
/-- What the encoder writes at v, whatever the writer holds none of. -/
def WritesS (w : World) (v : Value) (l : List UInt8) : Prop := ∀ (w0 : World) (b eb : Nat), Below w.heap.size w w0 → StS w.heap.size b eb [] w0 →
  Calls Tryz.prog 33 #[.pointer (some ⟨eb, 0, none⟩), v] w0 (WrS w.heap.size b eb l (.tuple #[]) w0)
theorem st_newS (w : World) (cur : Array Value) (h0 : cur[0]? = some (.iface 59 (.pointer (some ⟨w.heap.size, 0, none⟩)))) (h1 : cur.size = 65) :
    StS w.heap.size w.heap.size (w.heap.size + 1) [] ((w.alloc (.cells #[.pointer none, .slice none 0 0] 61)).alloc (.cells cur 66)) := by
  refine ⟨?_, ⟨cur, heap_atS _ _ _ (by simp), h0, h1⟩, by omega, by simp; omega⟩
  have h := Lib.IsBuilderF.of (Lib.fresh_isBuilder 61 5 w)
  exact h.alloc _
set_option maxRecDepth 100000 in
set_option maxHeartbeats 1600000 in
theorem jmS (v : Value) (l : List UInt8) (w : World) (henc : WritesS w v l) : Calls Tryz.prog 37 #[v] w fun e w' => e = .returned (.string ⟨l.toArray⟩) ∧ Below w.heap.size w w' := by
  have HE := Lib.hid henc
  clear henc
  go_enter Tryz.func37, Tryz.ntmps37
  go_wp2_with fail
  have hzs : (Tryz.zeroCells66).size = 65 := by kernel_rfl
  refine (HE.out _ w.heap.size (w.heap.size + 1) ?_ (st_newS w (Tryz.zeroCells66.setIfInBounds 0 (.iface 59 (.pointer (some ⟨w.heap.size, 0, none⟩)))) (by simp [hzs]) (by simp [hzs]))).mono ?_
  · exact ((Below.refl _ _).alloc (Nat.le_refl _) _).alloc (by simp) _
  rintro e w1 ⟨rfl, hS, hF⟩
  have hB := ((((Below.refl w.heap.size w).alloc (Nat.le_refl _) (.cells #[.pointer none, .slice none 0 0] 61)).alloc (by simp) (.cells (Tryz.zeroCells66.setIfInBounds 0 (.iface 59 (.pointer (some ⟨w.heap.size, 0, none⟩)))) 66))).trans hF.below
  have HS := Lib.hid hS
  have HB := Lib.hid hB
  clear hS hF hB hzs
  go_wp2_with (go_at_call 34; refine (Tryz.Builder_String_any_k w.heap.size w.heap.size l _ HS.out.bld HS.out.lew).mono ?_; rintro e w2 ⟨rfl, _, hb2, _⟩)
  go_ret
  exact ⟨rfl, HB.out.trans hb2⟩
end Go.Proofs.YtdkccihoecpcaaaGreatFmt
