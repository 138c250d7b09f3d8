/- The laws on an int and a float, and on values of different types, walked. Conditions: none. -/
import Derived.Test.YtdklmpgjpnjdmaaGreatDoorOps
import Derived.Test.YtdklmpgjpnjdmaaGreatDoorFloatA
namespace Go.Proofs.YtdklmpgjpnjdmaaGreatDoor
open Go.RowKit Go
theorem zz_eqIntFloat (n : Int) (x : Nat) (w : World) : Calls Tryz.prog 9 #[.int .i64 n, .float .f64 x] w (RetD (.tuple #[.bool (cmpF (floatOfInt .f64 n) x == 0), .bool true]) w) := by
  go_enter Tryz.func9, Tryz.ntmps9
  go_wp2_with (go_at_call 31; refine (funcOpEq_of _ _ _ _ (retD_of (compare_if _ _ _))).mono ?_; rintro e w' ⟨rfl, nq, rfl⟩)
  go_ret2
  exact ⟨rfl, _, rfl⟩
theorem zz_neIntFloat (n : Int) (x : Nat) (w : World) : Calls Tryz.prog 10 #[.int .i64 n, .float .f64 x] w (RetD (.tuple #[.bool (cmpF (floatOfInt .f64 n) x != 0), .bool true]) w) := by
  go_enter Tryz.func10, Tryz.ntmps10
  go_wp2_with (go_at_call 32; refine (funcOpNe_of _ _ _ _ (retD_of (compare_if _ _ _))).mono ?_; rintro e w' ⟨rfl, nq, rfl⟩)
  go_ret2
  exact ⟨rfl, _, rfl⟩
theorem cmpF_zero (a b : Nat) : (cmpF a b == 0) = (!ltF a b && FloatKind.f64.format.order a b == some .eq) := by
  unfold cmpF
  cases ltF a b <;> cases (FloatKind.f64.format.order a b == some Ordering.eq) <;> simp
theorem cmpF_nan (a b : Nat) (h : FloatKind.f64.format.order b b ≠ some Ordering.eq) : (cmpF a b == 0) = false := by
  rw [cmpF_zero, Bool.and_eq_false_iff]
  right
  rw [beq_eq_false_iff_ne]
  intro e
  exact h (order_right e)
theorem cmpF_self (n : Int) : (cmpF (floatOfInt .f64 n) (floatOfInt .f64 n) == 0) = true := by
  rw [cmpF_zero]
  unfold ltF
  rw [order_floatOfInt n]
  rfl
theorem lawNeEq (n : Int) (x : Nat) (w : World) : Calls Tryz.prog 3 #[.int .i64 n, .float .f64 x] w (RetD (.bool true) w) := by
  have H1 := Lib.hid (cmpF_self n)
  by_cases hx : FloatKind.f64.format.order x x = some Ordering.eq
  · by_cases he : (cmpF (floatOfInt .f64 n) x == 0) = true
    all_goals
      have he1 : (cmpF (floatOfInt .f64 n) x != 0) = !(cmpF (floatOfInt .f64 n) x == 0) := rfl
      first | (have he2 := he; rw [he2] at he1) | (have he2 : (cmpF (floatOfInt .f64 n) x == 0) = false := (by simpa using he); rw [he2] at he1)
      clear he
      go_enter Tryz.func3, Tryz.ntmps3
      go_wp2_with fail
      refine (zz_eqIntFloat _ _ _).mono ?_; rintro e w1 ⟨rfl, n1, rfl⟩
      go_wp2_with fail
      refine (zz_neIntFloat _ _ _).mono ?_; rintro e w1 ⟨rfl, n2, rfl⟩
      go_wp2_with fail
      refine (zz_eqIntFloat _ _ _).mono ?_; rintro e w1 ⟨rfl, n3, rfl⟩
      rw [H1.out]
      go_wp2
      go_ret
      exact ⟨rfl, _, rfl⟩
  · have he2 := cmpF_nan (floatOfInt .f64 n) x hx
    have he1 : (cmpF (floatOfInt .f64 n) x != 0) = true := by rw [bne, he2]; rfl
    have hxb : (FloatKind.f64.format.order x x != some Ordering.eq) = true := by simp [bne, hx]
    go_enter Tryz.func3, Tryz.ntmps3
    go_wp2_with fail
    refine (zz_eqIntFloat _ _ _).mono ?_; rintro e w1 ⟨rfl, n1, rfl⟩
    go_wp2_with fail
    refine (zz_neIntFloat _ _ _).mono ?_; rintro e w1 ⟨rfl, n2, rfl⟩
    go_wp2_with fail
    refine (zz_eqIntFloat _ _ _).mono ?_; rintro e w1 ⟨rfl, n3, rfl⟩
    rw [H1.out]
    go_wp2
    go_ret
    exact ⟨rfl, _, rfl⟩
theorem zz_gtStringInt (s : ByteArray) (n : Int) (w : World) : Calls Tryz.prog 24 #[.string s, .int .i64 n] w (RetD (.tuple #[.bool true, .bool true]) w) := by
  go_enter Tryz.func24, Tryz.ntmps24
  go_wp2_with (go_at_call 34; refine (funcOpGt_of _ _ _ _ (retD_of (compare_si _ _ _))).mono ?_; rintro e w' ⟨rfl, nq, rfl⟩)
  all_goals (go_ret2; exact ⟨by first | rfl | (simp [cmpI]; done) | (congr 1), _, rfl⟩)
theorem zz_gtIntString (n : Int) (s : ByteArray) (w : World) : Calls Tryz.prog 25 #[.int .i64 n, .string s] w (RetD (.tuple #[.bool false, .bool true]) w) := by
  go_enter Tryz.func25, Tryz.ntmps25
  go_wp2_with (go_at_call 34; refine (funcOpGt_of _ _ _ _ (retD_of (compare_is _ _ _))).mono ?_; rintro e w' ⟨rfl, nq, rfl⟩)
  all_goals (go_ret2; exact ⟨by first | rfl | (simp [cmpI]; done) | (congr 1), _, rfl⟩)
theorem zz_gtIntBool (n : Int) (b : Bool) (w : World) : Calls Tryz.prog 26 #[.int .i64 n, .bool b] w (RetD (.tuple #[.bool true, .bool true]) w) := by
  go_enter Tryz.func26, Tryz.ntmps26
  go_wp2_with (go_at_call 34; refine (funcOpGt_of _ _ _ _ (retD_of (compare_ib _ _ _))).mono ?_; rintro e w' ⟨rfl, nq, rfl⟩)
  all_goals (go_ret2; exact ⟨by first | rfl | (simp [cmpI]; done) | (congr 1), _, rfl⟩)
theorem zz_gtBoolInt (b : Bool) (n : Int) (w : World) : Calls Tryz.prog 27 #[.bool b, .int .i64 n] w (RetD (.tuple #[.bool false, .bool true]) w) := by
  go_enter Tryz.func27, Tryz.ntmps27
  go_wp2_with (go_at_call 34; refine (funcOpGt_of _ _ _ _ (retD_of (compare_bi _ _ _))).mono ?_; rintro e w' ⟨rfl, nq, rfl⟩)
  all_goals (go_ret2; exact ⟨by first | rfl | (simp [cmpI]; done) | (congr 1), _, rfl⟩)
theorem zz_gtIntNull (n : Int) (w : World) : Calls Tryz.prog 28 #[.int .i64 n] w (RetD (.tuple #[.bool true, .bool true]) w) := by
  go_enter Tryz.func28, Tryz.ntmps28
  go_wp2_with (go_at_call 34; refine (funcOpGt_of _ _ _ _ (retD_of (compare_in _ _))).mono ?_; rintro e w' ⟨rfl, nq, rfl⟩)
  all_goals (go_ret2; exact ⟨by first | rfl | (simp [cmpI]; done) | (congr 1), _, rfl⟩)
theorem zz_gtNullInt (n : Int) (w : World) : Calls Tryz.prog 29 #[.int .i64 n] w (RetD (.tuple #[.bool false, .bool true]) w) := by
  go_enter Tryz.func29, Tryz.ntmps29
  go_wp2_with (go_at_call 34; refine (funcOpGt_of _ _ _ _ (retD_of (compare_ni _ _))).mono ?_; rintro e w' ⟨rfl, nq, rfl⟩)
  all_goals (go_ret2; exact ⟨by first | rfl | (simp [cmpI]; done) | (congr 1), _, rfl⟩)
theorem zz_gtBools (a b : Bool) (w : World) : Calls Tryz.prog 30 #[.bool a, .bool b] w (RetD (.tuple #[.bool (a && !b), .bool true]) w) := by
  go_enter Tryz.func30, Tryz.ntmps30
  go_wp2_with (go_at_call 34; refine (funcOpGt_of _ _ _ _ (retD_of (compare_bb _ _ _))).mono ?_; rintro e w' ⟨rfl, nq, rfl⟩)
  all_goals (go_ret2; exact ⟨by first | rfl | (simp [cmpI]; done) | (congr 1), _, rfl⟩)
set_option maxRecDepth 100000 in
theorem bytesGtT (n : Int) (s : ByteArray) (b : Bool) (hs : s.size ≤ 9223372036854775807) (w : World) : Calls Tryz.prog 23 #[.int .i64 n, .string s, .bool b] w (Ret (.bool (decide (s.size ≤ 1048576))) w) := by
  by_cases hb : s.size ≤ 1048576
  · go_enter Tryz.func23, Tryz.ntmps23
    go_wp2
    go_ret
    exact ⟨ret_bool (by simp [hb]), rfl⟩
  · go_enter Tryz.func23, Tryz.ntmps23
    go_wp2
    go_ret
    exact ⟨ret_bool (by simp [hb]), rfl⟩
set_option maxRecDepth 100000 in
set_option maxHeartbeats 1600000 in
theorem lawGtType (n : Int) (s : ByteArray) (b : Bool) (hs : s.size ≤ 9223372036854775807) (w : World) : Calls Tryz.prog 8 #[.int .i64 n, .string s, .bool b] w (RetD (.bool true) w) := by
  by_cases hb : s.size ≤ 1048576
  · have hbb : (b && !b) = false := by cases b <;> rfl
    go_enter Tryz.func8, Tryz.ntmps8
    go_wp2_with (go_at_call 23; refine (bytesGtT _ _ _ hs _).mono ?_; rintro e w' ⟨rfl, rfl⟩)
    go_wp2_with fail
    refine (zz_gtStringInt _ _ _).mono ?_; rintro e w1 ⟨rfl, n1, rfl⟩
    go_wp2_with fail
    refine (zz_gtIntString _ _ _).mono ?_; rintro e w1 ⟨rfl, n2, rfl⟩
    go_wp2_with fail
    refine (zz_gtIntBool _ _ _).mono ?_; rintro e w1 ⟨rfl, n3, rfl⟩
    go_wp2_with fail
    refine (zz_gtBoolInt _ _ _).mono ?_; rintro e w1 ⟨rfl, n4, rfl⟩
    go_wp2_with fail
    refine (zz_gtIntNull _ _).mono ?_; rintro e w1 ⟨rfl, n5, rfl⟩
    go_wp2_with fail
    refine (zz_gtNullInt _ _).mono ?_; rintro e w1 ⟨rfl, n6, rfl⟩
    go_wp2_with fail
    refine (zz_gtBools _ _ _).mono ?_; rintro e w1 ⟨rfl, n7, rfl⟩
    go_wp2_with fail
    refine (zz_gtBools _ _ _).mono ?_; rintro e w1 ⟨rfl, n8, rfl⟩
    go_wp2_with fail
    refine (zz_gtBools _ _ _).mono ?_; rintro e w1 ⟨rfl, n9, rfl⟩
    go_wp2
    go_ret
    exact ⟨rfl, _, rfl⟩
  · have hb' : 1048576 < s.size := by omega
    go_enter Tryz.func8, Tryz.ntmps8
    go_wp2_with (go_at_call 23; refine (bytesGtT _ _ _ hs _).mono ?_; rintro e w' ⟨rfl, rfl⟩)
    go_ret
    exact ⟨rfl, 0, rfl⟩
end Go.Proofs.YtdklmpgjpnjdmaaGreatDoor
