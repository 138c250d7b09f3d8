/- The messages on an array index that is null or a bool: the law walked. Conditions: none. -/
import Derived.Test.YtfmjeacjfnlhiaaGreatFmtPrevs
namespace Go.Proofs.YtfmjeacjfnlhiaaGreatFmt
open Go.RowKit Go
theorem ret_str {a b : ByteArray} (h : a = b) : Ending.returned (.string a) = .returned (.string b) := by rw [h]
theorem tep_false (w : World) : Calls Tryz.prog 49 #[.iface 4 (.bool false)] w (RetB (.string ⟨#[98, 111, 111, 108, 101, 97, 110, 32, 40, 102, 97, 108, 115, 101, 41]⟩) w) := (tep_bool false w).mono fun _ _ ⟨h, k⟩ => ⟨h.trans (ret_str (by decide +kernel)), k⟩
theorem tep_true (w : World) : Calls Tryz.prog 49 #[.iface 4 (.bool true)] w (RetB (.string ⟨#[98, 111, 111, 108, 101, 97, 110, 32, 40, 116, 114, 117, 101, 41]⟩) w) := (tep_bool true w).mono fun _ _ ⟨h, k⟩ => ⟨h.trans (ret_str (by decide +kernel)), k⟩
set_option maxRecDepth 100000 in
theorem zz_idx_false (w : World) : Calls Tryz.prog 14 #[.bool false] w (RetB (.string ⟨#[101, 120, 112, 101, 99, 116, 101, 100, 32, 97, 32, 110, 117, 109, 98, 101, 114, 32, 102, 111, 114, 32, 105, 110, 100, 101, 120, 105, 110, 103, 32, 97, 110, 32, 97, 114, 114, 97, 121, 32, 98, 117, 116, 32, 103, 111, 116, 58, 32, 98, 111, 111, 108, 101, 97, 110, 32, 40, 102, 97, 108, 115, 101, 41]⟩) w) := by
  go_enter Tryz.func14, Tryz.ntmps14
  go_wp2_with (first | (go_at_call 38; go_in) | (go_at_call 49; refine (tep_false _).mono ?_; rintro e w1 ⟨rfl, hb⟩))
  go_ret
  exact ⟨ret_str (by decide +kernel), ((Below.refl _ _).alloc (Nat.le_refl _) _).trans (hb.mono (by simp))⟩
set_option maxRecDepth 100000 in
theorem zz_idx_true (w : World) : Calls Tryz.prog 14 #[.bool true] w (RetB (.string ⟨#[101, 120, 112, 101, 99, 116, 101, 100, 32, 97, 32, 110, 117, 109, 98, 101, 114, 32, 102, 111, 114, 32, 105, 110, 100, 101, 120, 105, 110, 103, 32, 97, 110, 32, 97, 114, 114, 97, 121, 32, 98, 117, 116, 32, 103, 111, 116, 58, 32, 98, 111, 111, 108, 101, 97, 110, 32, 40, 116, 114, 117, 101, 41]⟩) w) := by
  go_enter Tryz.func14, Tryz.ntmps14
  go_wp2_with (first | (go_at_call 38; go_in) | (go_at_call 49; refine (tep_true _).mono ?_; rintro e w1 ⟨rfl, hb⟩))
  go_ret
  exact ⟨ret_str (by decide +kernel), ((Below.refl _ _).alloc (Nat.le_refl _) _).trans (hb.mono (by simp))⟩
set_option maxRecDepth 100000 in
theorem zz_idx_nil (w : World) : Calls Tryz.prog 13 #[] w (RetB (.string ⟨#[101, 120, 112, 101, 99, 116, 101, 100, 32, 97, 32, 110, 117, 109, 98, 101, 114, 32, 102, 111, 114, 32, 105, 110, 100, 101, 120, 105, 110, 103, 32, 97, 110, 32, 97, 114, 114, 97, 121, 32, 98, 117, 116, 32, 103, 111, 116, 58, 32, 110, 117, 108, 108]⟩) w) := by
  go_enter Tryz.func13, Tryz.ntmps13
  go_wp2_with (first | (go_at_call 38; go_in) | (go_at_call 49; refine (tep_nil _).mono ?_; rintro e w1 ⟨rfl, rfl⟩))
  go_ret
  exact ⟨ret_str (by decide +kernel), (Below.refl _ _).alloc (Nat.le_refl _) _⟩
set_option maxRecDepth 100000 in
theorem boolText_any (b : Bool) (w : World) : Calls Tryz.prog 15 #[.bool b] w (Ret (.string ⟨(boolText b).toArray⟩) w) := by
  cases b
  · go_enter Tryz.func15, Tryz.ntmps15
    go_wp2
    go_ret
    exact ⟨rfl, rfl⟩
  · go_enter Tryz.func15, Tryz.ntmps15
    go_wp2
    go_ret
    exact ⟨rfl, rfl⟩
set_option maxRecDepth 100000 in
set_option maxHeartbeats 1600000 in
theorem lawArrIdx (k : Int) (b : Bool) (hk : 0 ≤ k ∧ k ≤ 255) (w : World) : Calls Tryz.prog 3 #[.int .u8 k, .bool b] w (RetB (.bool true) w) := by
  by_cases h : k % 2 = 0
  · have h2 : (k % 2 == 0) = true := by simpa using h
    go_enter Tryz.func3, Tryz.ntmps3
    go_wp2_with (go_at_call 13; refine (zz_idx_nil _).mono ?_; rintro e w1 ⟨rfl, hb⟩)
    go_ret
    exact ⟨ret_bool (by first | rfl | decide +kernel), hb⟩
  · have h2 : (k % 2 == 0) = false := by simpa using h
    cases b
    · have hx : ∀ w, Calls Tryz.prog 15 #[.bool false] w (Ret (.string ⟨#[102, 97, 108, 115, 101]⟩) w) := fun w => boolText_any false w
      go_enter Tryz.func3, Tryz.ntmps3
      go_wp2_with (first | (go_at_call 14; refine (zz_idx_false _).mono ?_; rintro e w1 ⟨rfl, hb⟩) | (go_at_call 15; refine (hx _).mono ?_; rintro e w' ⟨rfl, rfl⟩))
      go_ret
      exact ⟨ret_bool (by first | rfl | decide +kernel), hb⟩
    · have hx : ∀ w, Calls Tryz.prog 15 #[.bool true] w (Ret (.string ⟨#[116, 114, 117, 101]⟩) w) := fun w => boolText_any true w
      go_enter Tryz.func3, Tryz.ntmps3
      go_wp2_with (first | (go_at_call 14; refine (zz_idx_true _).mono ?_; rintro e w1 ⟨rfl, hb⟩) | (go_at_call 15; refine (hx _).mono ?_; rintro e w' ⟨rfl, rfl⟩))
      go_ret
      exact ⟨ret_bool (by first | rfl | decide +kernel), hb⟩
end Go.Proofs.YtfmjeacjfnlhiaaGreatFmt
