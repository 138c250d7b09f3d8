/- The encoder over the limited writer, at null, a bool and an int. Conditions: there is room. -/
import Derived.Test.YtdkccihoecpcaaaGreatFmtAppInt
import Derived.Test.YtdkccihoecpcaaaGreatFmtLim
import Derived.Deep.RegionHeld3
namespace Go.Proofs.YtdkccihoecpcaaaGreatFmt
open Go.RowKit Go
@[go_sem] theorem as_int_bool (v : Value) (w : World) : (Instr.typeAssert (.iface 3 v) 20 4 true).run Tryz.prog w = .ok (.tuple #[.bool false, .bool false]) w := by kernel_rfl
@[go_sem] theorem as_int_int (v : Value) (w : World) : (Instr.typeAssert (.iface 3 v) 20 3 true).run Tryz.prog w = .ok (.tuple #[v, .bool true]) w := by kernel_rfl
@[go_sem] theorem as_bool_bool (v : Value) (w : World) : (Instr.typeAssert (.iface 4 v) 20 4 true).run Tryz.prog w = .ok (.tuple #[v, .bool true]) w := by kernel_rfl
@[go_sem] theorem lim_nil (d : Nat) (a : Addr) (nm : String) (w : World) (h : nm = "WriteString" ∨ nm = "Write" ∨ nm = "WriteByte") : (nilAhead (d + 1) 112 (.pointer (some a)) nm).run Tryz.prog w = .ok (some false) w := by
  rcases h with rfl | rfl | rfl <;> kernel_rfl
@[go_sem] theorem lim_ws (d : Nat) (a : Addr) (w : World) : (method (d + 1) 112 (.pointer (some a)) "WriteString").run Tryz.prog w = .ok (303, .pointer (some a)) w := by kernel_rfl
@[go_sem] theorem lim_w (d : Nat) (a : Addr) (w : World) : (method (d + 1) 112 (.pointer (some a)) "Write").run Tryz.prog w = .ok (301, .pointer (some a)) w := by kernel_rfl
/-- Block eb is an encoder over the limited writer lb. -/
structure Enc (w : World) (eb lb : Nat) (cur : Array Value) : Prop where
  row : w.heap[eb]? = some (.cells cur 66 (0, 0))
  w0 : cur[0]? = some (.iface 112 (.pointer (some ⟨lb, 0, none⟩)))
  size : cur.size = 65
theorem Enc.c0 {w : World} {eb lb : Nat} {cur : Array Value} (h : Enc w eb lb cur) : w.cell? ⟨eb, 0, none⟩ = some (.iface 112 (.pointer (some ⟨lb, 0, none⟩))) := by simp [World.cell?, h.row, h.w0]
def boolText (b : Bool) : List UInt8 := if b then [116, 114, 117, 101] else [102, 97, 108, 115, 101]
set_option maxRecDepth 100000 in
set_option maxHeartbeats 1600000 in
theorem enc_bool (w : World) (eb lb bb : Nat) (cur : Array Value) (l : List UInt8) (b : Bool) (he : Enc w eb lb cur) (h : Lim w lb bb l) (hl : l.length < 20) :
    Calls Tryz.prog 33 #[.pointer (some ⟨eb, 0, none⟩), .iface 4 (.bool b)] w (Wrote [lb, bb] w lb bb (l ++ boolText b) (.tuple #[])) := by
  have c0 := he.c0
  cases b
  · have hw := lim_writeString w lb bb l ⟨#[102, 97, 108, 115, 101]⟩ h (by simp [ByteArray.size]; omega)
    go_enter Tryz.func33, Tryz.ntmps33
    go_wp2_with (go_at_call 303; refine hw.mono ?_; rintro e w' ⟨rfl, hL, hT⟩)
    go_end0
    exact ⟨rfl, hL, hT⟩
  · have hw := lim_writeString w lb bb l ⟨#[116, 114, 117, 101]⟩ h (by simp [ByteArray.size]; omega)
    go_enter Tryz.func33, Tryz.ntmps33
    go_wp2_with (go_at_call 303; refine hw.mono ?_; rintro e w' ⟨rfl, hL, hT⟩)
    go_end0
    exact ⟨rfl, hL, hT⟩
set_option maxRecDepth 100000 in
set_option maxHeartbeats 1600000 in
theorem enc_int (w : World) (eb lb bb : Nat) (cur : Array Value) (v : Int) (hv : -9223372036854775808 ≤ v ∧ v ≤ 9223372036854775807) (he : Enc w eb lb cur) (h : Lim w lb bb []) (h1 : eb ≠ lb) (h2 : eb ≠ bb) (B : Nat) (hB : B ≤ eb) (htab : Tab B w) :
    Calls Tryz.prog 33 #[.pointer (some ⟨eb, 0, none⟩), .iface 3 (.int .i64 v)] w (Wrote [lb, bb, eb] w lb bb (Lib.itoa v) (.tuple #[])) := by
  have c0 := he.c0
  have hsl := run_buf0 eb
  have HA := Lib.hid (show ∀ W, Touch [] w W → Calls Tryz.prog 41 #[.slice (some ⟨eb, 1, none⟩) 0 64, .int .i64 v, .int .i64 10] W (fun e w1 => Appended w eb 0 cur (Lib.itoa v) e w1 ∧ w1.cell? ⟨eb, 0, none⟩ = some (.iface 112 (.pointer (some ⟨lb, 0, none⟩)))) from fun W hW =>
    (appIntPublic W eb v cur hv he.size ((hW.block eb (Lib.lt_of_heap he.row) (by simp)).trans he.row) B hB (tab_touch htab hW (by simp))).mono (fun e w1 ⟨r1, r2, r3⟩ => ⟨⟨r1, r2, (hW.mono (by simp)).trans r3⟩, by
      simp only [World.cell?, r2]
      rw [putAt_low _ _ _ _ (by rw [he.size, bc_len]; have := Lib.itoa_length_le v hv.1 hv.2; omega) (by omega)]
      exact he.w0⟩))
  have hlen := Lib.itoa_length_le v hv.1 hv.2
  have HW := Lib.hid (show ∀ w1, w1.heap[eb]? = some (.cells (putAt cur 1 (Lib.byteCells (Lib.itoa v))) 66 (0, 0)) → Touch [eb] w w1 → Calls Tryz.prog 301 #[.pointer (some ⟨lb, 0, none⟩), .slice (some ⟨eb, 1, none⟩) (Lib.itoa v).length 64] w1 (Wrote [lb, bb] w1 lb bb (Lib.itoa v) (.tuple #[.int .i64 (Lib.itoa v).length, .nilIface])) from fun w1 hg ht =>
    lim_write w1 lb bb [] (Lib.itoa v) ⟨eb, 1, none⟩ 64 (h.touch ht (by simp; omega) (by simp; omega)) (by simp; omega) (fun j u hj => by
      have hjl : j < (Lib.byteCells (Lib.itoa v)).length := (List.getElem?_eq_some_iff.1 hj).1
      have e : (⟨eb, 1, none⟩ : Addr).add j = ⟨eb, 1 + j, none⟩ := by simp [Addr.add]
      rw [e]
      simp only [World.cell?, hg]
      rw [← hj]
      exact putAt_new cur 1 _ j (by rw [he.size, bc_len]; omega) hjl))
  clear htab he h hlen
  go_enter Tryz.func33, Tryz.ntmps33
  go_wp2
  go_region_with (first
    | (go_at_call 41; refine (HA.out _ (by first | exact Touch.refl _ _ | exact (Touch.refl _ _).drewN 1)).mono ?_; rintro e w1 ⟨⟨rfl, hg1, ht1⟩, hc1⟩)
    | (go_at_call 301; refine (HW.out _ hg1 ht1).mono ?_; rintro e w' ⟨rfl, hL, hT⟩))
  all_goals go_wp2
  all_goals go_end0
  all_goals exact ⟨rfl, hL, (ht1.mono (by simp)).trans (hT.mono (by simp))⟩
end Go.Proofs.YtdkccihoecpcaaaGreatFmt
