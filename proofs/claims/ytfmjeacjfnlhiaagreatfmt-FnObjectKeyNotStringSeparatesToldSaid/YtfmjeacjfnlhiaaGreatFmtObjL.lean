/- The messages on a key that is no string: the law's table walked. Conditions: none. -/
import Derived.Test.YtfmjeacjfnlhiaaGreatFmtItoa64
namespace Go.Proofs.YtfmjeacjfnlhiaaGreatFmt
open Go.RowKit Go
set_option maxRecDepth 100000 in
theorem zz_obj_false (w : World) : Calls Tryz.prog 17 #[.bool false] w (RetB (.string ⟨#[101, 120, 112, 101, 99, 116, 101, 100, 32, 97, 32, 115, 116, 114, 105, 110, 103, 32, 102, 111, 114, 32, 111, 98, 106, 101, 99, 116, 32, 107, 101, 121, 32, 98, 117, 116, 32, 103, 111, 116, 58, 32, 98, 111, 111, 108, 101, 97, 110, 32, 40, 102, 97, 108, 115, 101, 41]⟩) w) := by
  go_enter Tryz.func17, Tryz.ntmps17
  go_wp2_with (first | (go_at_call 39; go_in) | (go_at_call 49; refine (tep_false _).mono ?_; rintro e w1 ⟨rfl, hb⟩))
  go_ret
  exact ⟨ret_str (by decide +kernel), ((Below.refl _ _).alloc (Nat.le_refl _) _).trans (hb.mono (by simp))⟩
set_option maxRecDepth 100000 in
theorem zz_obj_true (w : World) : Calls Tryz.prog 17 #[.bool true] w (RetB (.string ⟨#[101, 120, 112, 101, 99, 116, 101, 100, 32, 97, 32, 115, 116, 114, 105, 110, 103, 32, 102, 111, 114, 32, 111, 98, 106, 101, 99, 116, 32, 107, 101, 121, 32, 98, 117, 116, 32, 103, 111, 116, 58, 32, 98, 111, 111, 108, 101, 97, 110, 32, 40, 116, 114, 117, 101, 41]⟩) w) := by
  go_enter Tryz.func17, Tryz.ntmps17
  go_wp2_with (first | (go_at_call 39; go_in) | (go_at_call 49; refine (tep_true _).mono ?_; rintro e w1 ⟨rfl, hb⟩))
  go_ret
  exact ⟨ret_str (by decide +kernel), ((Below.refl _ _).alloc (Nat.le_refl _) _).trans (hb.mono (by simp))⟩
set_option maxRecDepth 100000 in
theorem zz_obj_nil (w : World) : Calls Tryz.prog 16 #[] w (RetB (.string ⟨#[101, 120, 112, 101, 99, 116, 101, 100, 32, 97, 32, 115, 116, 114, 105, 110, 103, 32, 102, 111, 114, 32, 111, 98, 106, 101, 99, 116, 32, 107, 101, 121, 32, 98, 117, 116, 32, 103, 111, 116, 58, 32, 110, 117, 108, 108]⟩) w) := by
  go_enter Tryz.func16, Tryz.ntmps16
  go_wp2_with (first | (go_at_call 39; go_in) | (go_at_call 49; refine (tep_nil _).mono ?_; rintro e w1 ⟨rfl, rfl⟩))
  go_ret
  exact ⟨ret_str (by decide +kernel), (Below.refl _ _).alloc (Nat.le_refl _) _⟩
/-- The message on the key v. -/
def objText (v : Int) : ByteArray := ⟨#[101, 120, 112, 101, 99, 116, 101, 100, 32, 97, 32, 115, 116, 114, 105, 110, 103, 32, 102, 111, 114, 32, 111, 98, 106, 101, 99, 116, 32, 107, 101, 121, 32, 98, 117, 116, 32, 103, 111, 116, 58, 32, 110, 117, 109, 98, 101, 114, 32, 40]⟩ ++ ⟨(Lib.itoa v).toArray⟩ ++ ⟨#[41]⟩
theorem objText_eq (v : Int) : ⟨#[101, 120, 112, 101, 99, 116, 101, 100, 32, 97, 32, 115, 116, 114, 105, 110, 103, 32, 102, 111, 114, 32, 111, 98, 106, 101, 99, 116, 32, 107, 101, 121, 32, 98, 117, 116, 32, 103, 111, 116, 58, 32]⟩ ++ numText v = objText v := by
  apply ByteArray.ext
  simp [numText, objText, ByteArray.data_append]
theorem numText_size (v : Int) (hv : -9223372036854775808 ≤ v ∧ v ≤ 9223372036854775807) : (numText v).size ≤ 30 := by
  have h := Lib.itoa_length_le v hv.1 hv.2
  have e : (numText v).size = 9 + (Lib.itoa v).length := by simp [numText, ByteArray.size, ByteArray.data_append]; omega
  omega
theorem tab_new {w w' : World} (h : Tab w.heap.size w) (hb : Below w.heap.size w w') : Tab w'.heap.size w' := by
  obtain ⟨h1, g, hg, hl, _⟩ := h
  obtain ⟨k1, _⟩ := tab_touch ⟨h1, g, hg, hl, Nat.le_refl _⟩ (Touch.of_below hb) (by simp)
  exact ⟨k1, g, hg, Nat.lt_of_lt_of_le hl hb.size, Nat.le_refl _⟩
set_option maxRecDepth 100000 in
theorem zz_obj_int (v : Int) (hv : -9223372036854775808 ≤ v ∧ v ≤ 9223372036854775807) (w : World) (htab : Tab w.heap.size w) : Calls Tryz.prog 18 #[.int .i64 v] w (RetB (.string (objText v)) w) := by
  have HP := Lib.hid (show ∀ o, Calls Tryz.prog 49 #[.iface 3 (.int .i64 v)] (w.alloc o) (RetB (.string (numText v)) (w.alloc o)) from fun o => tep_int v hv _ (tab_new htab ((Below.refl _ _).alloc (Nat.le_refl _) _)))
  have hs := numText_size v hv
  have HE := Lib.hid (objText_eq v)
  clear htab
  generalize numText v = X at *
  generalize objText v = R at *
  go_enter Tryz.func18, Tryz.ntmps18
  go_wp2_with (first | (go_at_call 39; go_in) | (go_at_call 49; refine (HP.out _).mono ?_; rintro e w1 ⟨rfl, hb⟩))
  go_ret
  exact ⟨by rw [← HE.out]; rfl, ((Below.refl _ _).alloc (Nat.le_refl _) _).trans (hb.mono (by simp))⟩
end Go.Proofs.YtfmjeacjfnlhiaaGreatFmt
