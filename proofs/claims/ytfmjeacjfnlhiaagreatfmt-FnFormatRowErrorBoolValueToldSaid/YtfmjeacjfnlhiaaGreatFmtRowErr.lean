/- The message on a row that cannot be formatted, at a bool: the law walked. Conditions: none. -/
import Derived.Test.YtfmjeacjfnlhiaaGreatFmtPrevs
import Derived.Lib.Strings
import Derived.Laws.Concat
import Derived.Deep.RegionWith
namespace Go.Proofs.YtfmjeacjfnlhiaaGreatFmt
open Go.RowKit Go
theorem ret_str {a b : ByteArray} (h : a = b) : Ending.returned (.string a) = .returned (.string b) := by rw [h]
theorem tep_false (w : World) : Calls Tryz.prog 49 #[.iface 4 (.bool false)] w (RetB (.string ⟨#[98, 111, 111, 108, 101, 97, 110, 32, 40, 102, 97, 108, 115, 101, 41]⟩) w) := (tep_bool false w).mono fun _ _ ⟨h, k⟩ => ⟨h.trans (ret_str (by decide +kernel)), k⟩
theorem tep_true (w : World) : Calls Tryz.prog 49 #[.iface 4 (.bool true)] w (RetB (.string ⟨#[98, 111, 111, 108, 101, 97, 110, 32, 40, 116, 114, 117, 101, 41]⟩) w) := (tep_bool true w).mono fun _ _ ⟨h, k⟩ => ⟨h.trans (ret_str (by decide +kernel)), k⟩
theorem bcell {W w1 : World} (hb : Below W.heap.size W w1) : (∀ b o, b < W.heap.size → w1.cell? ⟨b, o, none⟩ = W.cell? ⟨b, o, none⟩) ∧ (∀ b o, b < W.heap.size → w1.frozen? ⟨b, o, none⟩ = W.frozen? ⟨b, o, none⟩) :=
  ⟨fun b o h => hb.cell (p := ⟨b, o, none⟩) h, fun b o h => hb.frozen (p := ⟨b, o, none⟩) h⟩
theorem row_below {w w1 : World} {o : Obj} (hb : Below (w.alloc o).drew.heap.size (w.alloc o).drew w1) : Below w.heap.size w w1 := by
  have h1 : Below w.heap.size w (w.alloc o).drew := Below.drew ((Below.refl w.heap.size w).alloc (Nat.le_refl _) o)
  have h2 : Below w.heap.size (w.alloc o).drew w1 := hb.mono (by simp)
  exact h1.trans h2
theorem run_add_str (t : TypeId) (a b : ByteArray) (h : a.size + b.size ≤ 8388608) (w : World) : (binOp .add t (.string a) (.string b)).run Tryz.prog w = .ok (.string (a ++ b)) w := by
  simp only [binOp]
  exact run_string_add_sum w a b (by omega)
/-- What stands ahead of the value. -/
def rowHead (t : ByteArray) : ByteArray := ⟨#[64]⟩ ++ t ++ ⟨#[32, 99, 97, 110, 110, 111, 116, 32, 102, 111, 114, 109, 97, 116, 32, 97, 110, 32, 97, 114, 114, 97, 121, 32, 105, 110, 99, 108, 117, 100, 105, 110, 103, 58, 32]⟩
theorem rowHead_size (t : ByteArray) : (rowHead t).size = t.size + 36 := by
  unfold rowHead
  rw [ByteArray.size_append, ByteArray.size_append]
  show 1 + t.size + 35 = _
  omega
/-- The sums, each under a name. -/
theorem sums (t x : ByteArray) (ht : t.size ≤ 1048576) (hx : x.size ≤ 100) : ∃ A B C, C = rowHead t ++ x ∧
    (∀ ty w, (binOp .add ty (.string ⟨#[64]⟩) (.string t)).run Tryz.prog w = .ok (.string A) w) ∧ (∀ ty w, (binOp .add ty (.string A) (.string ⟨#[32, 99, 97, 110, 110, 111, 116, 32, 102, 111, 114, 109, 97, 116, 32, 97, 110, 32, 97, 114, 114, 97, 121, 32, 105, 110, 99, 108, 117, 100, 105, 110, 103, 58, 32]⟩)).run Tryz.prog w = .ok (.string B) w) ∧ (∀ ty w, (binOp .add ty (.string B) (.string x)).run Tryz.prog w = .ok (.string C) w) := by
  refine ⟨⟨#[64]⟩ ++ t, rowHead t, rowHead t ++ x, rfl, fun ty w => run_add_str ty _ _ ?_ w, fun ty w => run_add_str ty _ _ ?_ w, fun ty w => run_add_str ty _ _ ?_ w⟩
  · show 1 + t.size ≤ _; omega
  · rw [ByteArray.size_append]; show 1 + t.size + 35 ≤ _; omega
  · rw [rowHead_size]; omega
set_option maxRecDepth 100000 in
set_option maxHeartbeats 3200000 in
theorem zz_row_false (t : ByteArray) (ht : t.size ≤ 1048576) (w : World) : Calls Tryz.prog 23 #[.string t, .bool false] w (RetB (.string (rowHead t ++ ⟨#[98, 111, 111, 108, 101, 97, 110, 32, 40, 102, 97, 108, 115, 101, 41]⟩)) w) := by
  have HR := Lib.hid (show rowHead t ++ ⟨#[98, 111, 111, 108, 101, 97, 110, 32, 40, 102, 97, 108, 115, 101, 41]⟩ = ⟨#[64]⟩ ++ t ++ ⟨#[32, 99, 97, 110, 110, 111, 116, 32, 102, 111, 114, 109, 97, 116, 32, 97, 110, 32, 97, 114, 114, 97, 121, 32, 105, 110, 99, 108, 117, 100, 105, 110, 103, 58, 32]⟩ ++ ⟨#[98, 111, 111, 108, 101, 97, 110, 32, 40, 102, 97, 108, 115, 101, 41]⟩ from rfl)
  generalize rowHead t ++ ⟨#[98, 111, 111, 108, 101, 97, 110, 32, 40, 102, 97, 108, 115, 101, 41]⟩ = R at *
  go_enter Tryz.func23, Tryz.ntmps23
  go_wp2_with (go_at_call 41; go_in)
  go_region_with (go_at_call 49; refine (tep_false _).mono ?_; rintro e w1 ⟨rfl, hb⟩; obtain ⟨hc, hf⟩ := bcell hb)
  all_goals go_wp2
  all_goals go_ret
  all_goals exact ⟨by rw [HR.out]; rfl, row_below hb⟩
set_option maxRecDepth 100000 in
set_option maxHeartbeats 3200000 in
theorem zz_row_true (t : ByteArray) (ht : t.size ≤ 1048576) (w : World) : Calls Tryz.prog 23 #[.string t, .bool true] w (RetB (.string (rowHead t ++ ⟨#[98, 111, 111, 108, 101, 97, 110, 32, 40, 116, 114, 117, 101, 41]⟩)) w) := by
  have HR := Lib.hid (show rowHead t ++ ⟨#[98, 111, 111, 108, 101, 97, 110, 32, 40, 116, 114, 117, 101, 41]⟩ = ⟨#[64]⟩ ++ t ++ ⟨#[32, 99, 97, 110, 110, 111, 116, 32, 102, 111, 114, 109, 97, 116, 32, 97, 110, 32, 97, 114, 114, 97, 121, 32, 105, 110, 99, 108, 117, 100, 105, 110, 103, 58, 32]⟩ ++ ⟨#[98, 111, 111, 108, 101, 97, 110, 32, 40, 116, 114, 117, 101, 41]⟩ from rfl)
  generalize rowHead t ++ ⟨#[98, 111, 111, 108, 101, 97, 110, 32, 40, 116, 114, 117, 101, 41]⟩ = R at *
  go_enter Tryz.func23, Tryz.ntmps23
  go_wp2_with (go_at_call 41; go_in)
  go_region_with (go_at_call 49; refine (tep_true _).mono ?_; rintro e w1 ⟨rfl, hb⟩; obtain ⟨hc, hf⟩ := bcell hb)
  all_goals go_wp2
  all_goals go_ret
  all_goals exact ⟨by rw [HR.out]; rfl, row_below hb⟩
set_option maxRecDepth 100000 in
set_option maxHeartbeats 3200000 in
theorem zz_row_nil (t : ByteArray) (ht : t.size ≤ 1048576) (w : World) : Calls Tryz.prog 24 #[.string t] w (RetB (.string (rowHead t ++ ⟨#[110, 117, 108, 108]⟩)) w) := by
  have HR := Lib.hid (show rowHead t ++ ⟨#[110, 117, 108, 108]⟩ = ⟨#[64]⟩ ++ t ++ ⟨#[32, 99, 97, 110, 110, 111, 116, 32, 102, 111, 114, 109, 97, 116, 32, 97, 110, 32, 97, 114, 114, 97, 121, 32, 105, 110, 99, 108, 117, 100, 105, 110, 103, 58, 32]⟩ ++ ⟨#[110, 117, 108, 108]⟩ from rfl)
  generalize rowHead t ++ ⟨#[110, 117, 108, 108]⟩ = R at *
  go_enter Tryz.func24, Tryz.ntmps24
  go_wp2_with (go_at_call 41; go_in)
  go_region_with (go_at_call 49; refine (tep_nil _).mono ?_; rintro e w1 ⟨rfl, rfl⟩)
  all_goals go_wp2
  all_goals go_ret
  all_goals exact ⟨by rw [HR.out]; rfl, ((Below.refl _ _).alloc (Nat.le_refl _) _).trans ⟨rfl, rfl, rfl, Nat.le_refl _, fun _ _ => rfl⟩⟩
end Go.Proofs.YtfmjeacjfnlhiaaGreatFmt
