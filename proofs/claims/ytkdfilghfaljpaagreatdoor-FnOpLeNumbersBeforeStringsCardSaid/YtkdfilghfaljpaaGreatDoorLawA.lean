/- The laws on ints, booleans, floats and mixed operands, walked: each returns true and leaves the world but for draws. Conditions: none. -/
import Derived.Test.YtkdfilghfaljpaaGreatDoorOps
namespace Go.Proofs.YtkdfilghfaljpaaGreatDoor
open Go.RowKit Go
theorem cmpI_ge (a b : Int) : decide (0 ≤ cmpI a b) = decide (b ≤ a) := by unfold cmpI; split <;> (try split) <;> simp <;> omega
theorem lawGeInts (l r : Int) (w : World) : Calls Tryz.prog 3 #[.int .i64 l, .int .i64 r] w (RetD (.bool true) w) := by
  go_enter Tryz.func3, Tryz.ntmps3
  go_wp2_with (first | (go_at_call 10; go_in) | (go_at_call 24; refine (funcOpGe_of _ _ _ _ (retD_of (compare_ii _ _ _))).mono ?_; rintro e w' ⟨rfl, nq, rfl⟩))
  go_ret
  exact ⟨ret_bool (by rw [cmpI_ge]; simp), _, rfl⟩
set_option maxHeartbeats 400000 in
theorem lawGeBool (l r : Bool) (w : World) : Calls Tryz.prog 4 #[.bool l, .bool r] w (RetD (.bool true) w) := by
  cases l <;> cases r
  all_goals
    go_enter Tryz.func4, Tryz.ntmps4
    go_wp2_with (first | (go_at_call 11; go_in) | (go_at_call 24; refine (funcOpGe_of _ _ _ _ (retD_of (compare_bb _ _ _))).mono ?_; rintro e w' ⟨rfl, nq, rfl⟩))
    all_goals (go_ret; exact ⟨ret_bool (by decide), _, rfl⟩)
theorem cmpF_le (l r : Nat) (h : FloatKind.f64.format.order l l = some Ordering.eq) :
    decide (cmpF l r ≤ 0) = (FloatKind.f64.format.order l r == some Ordering.lt || FloatKind.f64.format.order l r == some Ordering.eq) := by
  unfold cmpF ltF
  rw [h]
  cases h1 : (FloatKind.f64.format.order l r == some Ordering.lt) <;> cases h2 : (FloatKind.f64.format.order l r == some Ordering.eq) <;> simp
theorem lawLeFloats (l r : Nat) (w : World) : Calls Tryz.prog 5 #[.float .f64 l, .float .f64 r] w (RetD (.bool true) w) := by
  go_enter Tryz.func5, Tryz.ntmps5
  go_wp2_with (first | (go_at_call 12; go_in) | (go_at_call 25; refine (funcOpLe_of _ _ _ _ (retD_of (compare_ff _ _ _))).mono ?_; rintro e w' ⟨rfl, nq, rfl⟩))
  all_goals go_ret
  all_goals first
    | exact ⟨rfl, 0, rfl⟩
    | (have hl : FloatKind.f64.format.order l l = some Ordering.eq := by assumption
       exact ⟨ret_bool (by rw [cmpF_le l r hl]; simp), _, rfl⟩)
theorem lawLeIntFloat (l : Int) (r : Nat) (w : World) : Calls Tryz.prog 6 #[.int .i64 l, .float .f64 r] w (RetD (.bool true) w) := by
  go_enter Tryz.func6, Tryz.ntmps6
  go_wp2_with fail
  refine (show Calls Tryz.prog 13 _ w (RetD (.bool (decide (cmpF (floatOfInt .f64 l) r ≤ 0))) w) from ?_).mono ?_
  · go_enter Tryz.func13, Tryz.ntmps13
    go_wp2_with (go_at_call 25; refine (funcOpLe_of _ _ _ _ (retD_of (compare_if _ _ _))).mono ?_; rintro e w' ⟨rfl, nq, rfl⟩)
    go_ret
    exact ⟨rfl, _, rfl⟩
  · rintro e w' ⟨rfl, n1, rfl⟩
    go_wp2_with (first | (go_at_call 12; go_in) | (go_at_call 25; refine (funcOpLe_of _ _ _ _ (retD_of (compare_ff _ _ _))).mono ?_; rintro e w' ⟨rfl, nq, rfl⟩))
    go_ret
    exact ⟨ret_bool (by simp), _, rfl⟩
theorem leIntString (n : Int) (s : ByteArray) (w : World) : Calls Tryz.prog 15 #[.int .i64 n, .string s] w (RetD (.bool true) w) := by
  go_enter Tryz.func15, Tryz.ntmps15
  go_wp2_with (go_at_call 25; refine (funcOpLe_of _ _ _ _ (retD_of (compare_is _ _ _))).mono ?_; rintro e w' ⟨rfl, nq, rfl⟩)
  go_ret
  exact ⟨ret_bool (by decide), _, rfl⟩
theorem leStringInt (s : ByteArray) (n : Int) (w : World) : Calls Tryz.prog 16 #[.string s, .int .i64 n] w (RetD (.bool false) w) := by
  go_enter Tryz.func16, Tryz.ntmps16
  go_wp2_with (go_at_call 25; refine (funcOpLe_of _ _ _ _ (retD_of (compare_si _ _ _))).mono ?_; rintro e w' ⟨rfl, nq, rfl⟩)
  go_ret
  exact ⟨ret_bool (by decide), _, rfl⟩
set_option maxRecDepth 100000 in
theorem bytesLeNum (n : Int) (s : ByteArray) (hs : s.size ≤ 9223372036854775807) (w : World) : Calls Tryz.prog 14 #[.int .i64 n, .string s] w (Ret (.bool (decide (s.size ≤ 1048576))) w) := by
  by_cases hb : s.size ≤ 1048576
  · go_enter Tryz.func14, Tryz.ntmps14
    go_wp2
    go_ret
    exact ⟨ret_bool (by simp [hb]), rfl⟩
  · go_enter Tryz.func14, Tryz.ntmps14
    go_wp2
    go_ret
    exact ⟨ret_bool (by simp [hb]), rfl⟩
set_option maxRecDepth 100000 in
theorem lawLeNumStr (n : Int) (s : ByteArray) (hs : s.size ≤ 9223372036854775807) (w : World) : Calls Tryz.prog 7 #[.int .i64 n, .string s] w (RetD (.bool true) w) := by
  by_cases hb : s.size ≤ 1048576
  · go_enter Tryz.func7, Tryz.ntmps7
    go_wp2_with (first | (go_at_call 14; refine (bytesLeNum _ _ hs _).mono ?_; rintro e w' ⟨rfl, rfl⟩) | (go_at_call 15; refine (leIntString _ _ _).mono ?_; rintro e w' ⟨rfl, nq, rfl⟩) | (go_at_call 16; refine (leStringInt _ _ _).mono ?_; rintro e w' ⟨rfl, nq2, rfl⟩))
    go_ret
    exact ⟨rfl, _, rfl⟩
  · have hb' : 1048576 < s.size := by omega
    go_enter Tryz.func7, Tryz.ntmps7
    go_wp2_with (go_at_call 14; refine (bytesLeNum _ _ hs _).mono ?_; rintro e w' ⟨rfl, rfl⟩)
    go_ret
    exact ⟨rfl, 0, rfl⟩
end Go.Proofs.YtkdfilghfaljpaaGreatDoor
