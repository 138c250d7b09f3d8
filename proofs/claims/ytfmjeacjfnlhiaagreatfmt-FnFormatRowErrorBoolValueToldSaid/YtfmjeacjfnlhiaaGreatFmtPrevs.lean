/- The previews in the messages of errors. Conditions: none. -/
import Derived.Test.YtfmjeacjfnlhiaaGreatFmtPrev
import Derived.Stop.Asserts
namespace Go.Proofs.YtfmjeacjfnlhiaaGreatFmt
open Go.RowKit Go
@[go_sem] theorem as_int_f64 (v : Value) (w : World) : (Instr.typeAssert (.iface 3 v) 20 84 true).run Tryz.prog w = .ok (.tuple #[.float .f64 0, .bool false]) w := by kernel_rfl
@[go_sem] theorem as_int_big (v : Value) (w : World) : (Instr.typeAssert (.iface 3 v) 20 86 true).run Tryz.prog w = .ok (.tuple #[.pointer none, .bool false]) w := by kernel_rfl
@[go_sem] theorem as_int_num (v : Value) (w : World) : (Instr.typeAssert (.iface 3 v) 20 88 true).run Tryz.prog w = .ok (.tuple #[.string ByteArray.empty, .bool false]) w := by kernel_rfl
@[go_sem] theorem as_bool_iter (v : Value) (w : World) : (Instr.typeAssert (.iface 4 v) 20 103 true).run Tryz.prog w = .ok (.tuple #[.nilIface, .bool false]) w :=
  run_typeAssert_lacksB Tryz.underlying103 (by kernel_rfl) (by kernel_rfl) v _ w
@[go_sem] theorem as_int_iter (v : Value) (w : World) : (Instr.typeAssert (.iface 3 v) 20 103 true).run Tryz.prog w = .ok (.tuple #[.nilIface, .bool false]) w :=
  run_typeAssert_lacksB Tryz.underlying103 (by kernel_rfl) (by kernel_rfl) v _ w
/-- It returns v; of what was there nothing has changed. -/
def RetB (v : Value) (w : World) (e : Ending) (w' : World) : Prop := e = .returned v ∧ Below w.heap.size w w'
/-- The encoder writes l for v. -/
def EncOk (w : World) (v : Value) (l : List UInt8) : Prop := ∀ (w0 : World) (eb lb bb : Nat) (cur : Array Value), w.heap.size ≤ eb → w.heap.size ≤ lb → w.heap.size ≤ bb → eb ≠ lb → eb ≠ bb → Touch [] w w0 → Enc w0 eb lb cur → Lim w0 lb bb [] →
      Calls Tryz.prog 43 #[.pointer (some ⟨eb, 0, none⟩), v] w0 (Wrote [lb, bb, eb] w0 lb bb l (.tuple #[]))
theorem encOk_bool (w : World) (b : Bool) : EncOk w (.iface 4 (.bool b)) (boolText b) := fun w0 eb lb bb cur _ _ _ _ _ _ he hl =>
  (enc_bool w0 eb lb bb cur [] b he hl (by simp)).mono (fun _ _ ⟨h1, h2, h3⟩ => ⟨h1, h2, h3.mono (by intro x hx; simp at hx ⊢; omega)⟩)
theorem encOk_int (w : World) (v : Int) (hv : -9223372036854775808 ≤ v ∧ v ≤ 9223372036854775807) (htab : Tab w.heap.size w) : EncOk w (.iface 3 (.int .i64 v)) (Lib.itoa v) := fun w0 eb lb bb cur h1 _ _ h4 h5 ht he hl =>
  enc_int w0 eb lb bb cur v hv he hl h4 h5 w.heap.size h1 (tab_touch htab ht (by simp))
theorem run_lim_text (bb : Nat) (l : List UInt8) (W : World) (h : W.heap[bb]? = some (.cells (limRow l) 5 (0, 0))) : (convert 41 9 (.slice (some ⟨bb, 0, none⟩) l.length 32)).run Tryz.prog W = .ok (.string ⟨l.toArray⟩) W := by
  refine run_convert_bytes_back W 41 9 5 ⟨bb, 0, none⟩ 32 l Tryz.underlying41 Tryz.underlying5 Tryz.underlying9 (fun j hj => ?_)
  have e : (⟨bb, 0, none⟩ : Addr).add j = ⟨bb, j, none⟩ := by simp [Addr.add] <;> omega
  rw [e]
  simp only [World.cell?, h, limRow, List.getElem?_toArray]
  rw [List.getElem?_append_left (by rw [bc_len]; exact hj)]
  simp [Lib.byteCells, hj]
set_option maxRecDepth 100000 in
set_option maxHeartbeats 1600000 in
theorem preview_any (v : Value) (l : List UInt8) (w : World) (henc : EncOk w v l) (hl : l.length ≤ 30) : Calls Tryz.prog 50 #[v] w (RetB (.string ⟨l.toArray⟩) w) := by
  have HJ := Lib.hid (jlm v l w henc)
  have hg : ¬ ((30 : Int) < (l.length : Int)) := by omega
  clear henc
  go_enter Tryz.func50, Tryz.ntmps50
  go_wp2_with (go_at_call 62; refine HJ.out.mono ?_; rintro e w1 ⟨bb, rfl, hrow, hlt, hb⟩; have hx := run_lim_text bb l w1 hrow)
  go_ret
  exact ⟨rfl, hb⟩
set_option maxRecDepth 100000 in
theorem typeOf_bool (b : Bool) (w : World) : Calls Tryz.prog 61 #[.iface 4 (.bool b)] w (Ret (.string ⟨#[98, 111, 111, 108, 101, 97, 110]⟩) w) := by
  go_enter Tryz.func61, Tryz.ntmps61
  go_wp2
  go_ret
  exact ⟨rfl, rfl⟩
set_option maxRecDepth 100000 in
theorem typeOf_int (v : Int) (w : World) : Calls Tryz.prog 61 #[.iface 3 (.int .i64 v)] w (Ret (.string ⟨#[110, 117, 109, 98, 101, 114]⟩) w) := by
  go_enter Tryz.func61, Tryz.ntmps61
  go_wp2
  go_ret
  exact ⟨rfl, rfl⟩
set_option maxRecDepth 100000 in
set_option maxHeartbeats 1600000 in
theorem tep_bool (b : Bool) (w : World) : Calls Tryz.prog 49 #[.iface 4 (.bool b)] w (RetB (.string (⟨#[98, 111, 111, 108, 101, 97, 110]⟩ ++ ⟨#[32, 40]⟩ ++ ⟨(boolText b).toArray⟩ ++ ⟨#[41]⟩)) w) := by
  cases b
  · have HP := Lib.hid (show Calls Tryz.prog 50 #[.iface 4 (.bool false)] w (RetB (.string ⟨#[102, 97, 108, 115, 101]⟩) w) from preview_any _ (boolText false) w (encOk_bool w false) (by decide))
    go_enter Tryz.func49, Tryz.ntmps49
    go_wp2_with (first | (go_at_call 61; refine (typeOf_bool false _).mono ?_; rintro e w' ⟨rfl, rfl⟩) | (go_at_call 50; refine HP.out.mono ?_; rintro e w1 ⟨rfl, hb⟩))
    go_ret
    exact ⟨rfl, hb⟩
  · have HP := Lib.hid (show Calls Tryz.prog 50 #[.iface 4 (.bool true)] w (RetB (.string ⟨#[116, 114, 117, 101]⟩) w) from preview_any _ (boolText true) w (encOk_bool w true) (by decide))
    go_enter Tryz.func49, Tryz.ntmps49
    go_wp2_with (first | (go_at_call 61; refine (typeOf_bool true _).mono ?_; rintro e w' ⟨rfl, rfl⟩) | (go_at_call 50; refine HP.out.mono ?_; rintro e w1 ⟨rfl, hb⟩))
    go_ret
    exact ⟨rfl, hb⟩
set_option maxRecDepth 100000 in
theorem tep_nil (w : World) : Calls Tryz.prog 49 #[.nilIface] w (Ret (.string ⟨#[110, 117, 108, 108]⟩) w) := by
  go_enter Tryz.func49, Tryz.ntmps49
  go_wp2
  go_ret
  exact ⟨rfl, rfl⟩
end Go.Proofs.YtfmjeacjfnlhiaaGreatFmt
