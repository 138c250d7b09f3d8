/- The remainder of two floats against the remainder of two ints: the law walked. Conditions: none. -/
import Derived.Test.YtnlngodbjkefhaaGreatDoorMod
import Derived.Test.YtnlngodbjkefhaaGreatDoorClamp
namespace Go.Proofs.YtnlngodbjkefhaaGreatDoor
open Go.RowKit Go
theorem run_cv (s : Bool) (r : Nat) (z : Int) (hr : r < Ieee.double.infRung) (h : -9223372036854775808 ≤ (if s = true then -(whole r : Int) else (whole r : Int)) ∧ (if s = true then -(whole r : Int) else (whole r : Int)) ≤ 9223372036854775807) (hz : z = if s = true then -(whole r : Int) else (whole r : Int)) (w : World) :
    (convert 22 3 (.float .f64 (Ieee.double.word s r))).run Tryz.prog w = .ok (.int .i64 z) w := by
  subst hz
  exact run_convert_float_int w 22 3 .f64 .i64 _ _ (by kernel_rfl) Tryz.underlying3 (toIntVal s r hr h)
/-- How a word stands to int's bounds. -/
theorem ways (s : Bool) (r : Nat) : ((s = false ∨ r ≤ R63) ∧ (s = true ∨ r < R63) ∧ cl s r = (if s = true then -(whole r : Int) else (whole r : Int)) ∧ (-9223372036854775808 ≤ (if s = true then -(whole r : Int) else (whole r : Int)) ∧ (if s = true then -(whole r : Int) else (whole r : Int)) ≤ 9223372036854775807) ∧ r < Ieee.double.infRung) ∨
    (s = false ∧ R63 ≤ r ∧ cl s r = 9223372036854775807) ∨ (s = true ∧ R63 < r ∧ cl s r = -9223372036854775808) := by
  have hinf : R63 < Ieee.double.infRung := by rw [d_inf]; decide
  cases s
  · by_cases h : r < R63
    · have hw := whole_lt h
      have e : cl false r = (whole r : Int) := by unfold cl; rw [if_neg (by simp), if_pos h]
      left
      refine ⟨Or.inl rfl, Or.inr h, by rw [e, if_neg (by simp)], ?_, by omega⟩
      rw [if_neg (by simp)]; omega
    · right; left
      exact ⟨rfl, by omega, by unfold cl; rw [if_neg (by simp), if_neg h]⟩
  · by_cases h : r ≤ R63
    · have hw := whole_le h
      have e : cl true r = -(whole r : Int) := by unfold cl; rw [if_pos rfl, if_pos h]
      left
      refine ⟨Or.inr h, Or.inl rfl, by rw [e, if_pos rfl], ?_, by omega⟩
      rw [if_pos rfl]; omega
    · right; right
      exact ⟨rfl, by omega, by unfold cl; rw [if_pos rfl, if_neg h]⟩
set_option maxRecDepth 100000 in
theorem floatToInt_any (s : Bool) (r : Nat) (h : r ≤ 9218868437227405312) (w : World) : Calls Tryz.prog 25 #[.float .f64 (Ieee.double.word s r)] w (Ret (.int .i64 (cl s r)) w) := by
  obtain ⟨t1, t2, t3, _, _⟩ := bounds_tests s r h
  have e1 : CM = 14114281232179134464 := rfl
  have e2 : R63 = 4890909195324358656 := rfl
  have hpos : 0 < R63 := by decide
  rcases ways s r with ⟨h1, h2, h3, h4, h5⟩ | ⟨h1, h2, h3⟩ | ⟨h1, h2, h3⟩
  · rw [decide_eq_true h1] at t1
    rw [decide_eq_true h2] at t2
    have hcv := run_cv s r _ h5 h4 h3
    rw [e1] at t1
    rw [e2] at t2
    clear e1 e2 h1 h2 h3 h4 h5 t3 hpos
    generalize Ieee.double.word s r = X at *
    generalize cl s r = z at *
    go_enter Tryz.func25, Tryz.ntmps25
    go_wp2
    go_ret
    exact ⟨rfl, rfl⟩
  · rw [decide_eq_true (Or.inl h1)] at t1
    rw [decide_eq_false (by rintro (x | x); (rw [h1] at x; cases x); omega)] at t2
    rw [decide_eq_true ⟨h1, by omega⟩] at t3
    rw [e1] at t1
    rw [e2] at t2
    rw [h3]
    clear e1 e2 h1 h2 h3 hpos
    generalize Ieee.double.word s r = X at *
    go_enter Tryz.func25, Tryz.ntmps25
    go_wp2
    go_ret
    exact ⟨rfl, rfl⟩
  · rw [decide_eq_false (by rintro (x | x); (rw [h1] at x; cases x); omega)] at t1
    rw [decide_eq_false (by rintro ⟨x, _⟩; rw [h1] at x; cases x)] at t3
    rw [e1] at t1
    rw [h3]
    clear e1 e2 h1 h2 h3 t2 hpos
    generalize Ieee.double.word s r = X at *
    go_enter Tryz.func25, Tryz.ntmps25
    go_wp2
    go_ret
    exact ⟨rfl, rfl⟩
set_option maxRecDepth 100000 in
theorem clampTrunc_any (s : Bool) (r : Nat) (h : r ≤ 9218868437227405312) (w : World) : Calls Tryz.prog 9 #[.float .f64 (Ieee.double.word s r)] w (Ret (.int .i64 (cl s r)) w) := by
  obtain ⟨_, _, _, t4, t5⟩ := bounds_tests s r h
  have e1 : CM = 14114281232179134464 := rfl
  have e2 : R63 = 4890909195324358656 := rfl
  rcases ways s r with ⟨h1, h2, h3, h4, h5⟩ | ⟨h1, h2, h3⟩ | ⟨h1, h2, h3⟩
  · rw [decide_eq_false (by rintro ⟨x, y⟩; rcases h2 with z | z; (rw [x] at z; cases z); omega)] at t4
    rw [decide_eq_false (by rintro ⟨x, y⟩; rcases h1 with z | z; (rw [x] at z; cases z); omega)] at t5
    have hcv := run_cv s r _ h5 h4 h3
    rw [e2] at t4
    rw [e1] at t5
    clear e1 e2 h1 h2 h3 h4 h5
    generalize Ieee.double.word s r = X at *
    generalize cl s r = z at *
    go_enter Tryz.func9, Tryz.ntmps9
    go_wp2
    go_ret
    exact ⟨rfl, rfl⟩
  · rw [decide_eq_true ⟨h1, h2⟩] at t4
    rw [e2] at t4
    rw [h3]
    clear e1 e2 h1 h2 h3 t5
    generalize Ieee.double.word s r = X at *
    go_enter Tryz.func9, Tryz.ntmps9
    go_wp2
    go_ret
    exact ⟨rfl, rfl⟩
  · rw [decide_eq_false (by rintro ⟨x, _⟩; rw [h1] at x; cases x)] at t4
    rw [decide_eq_true ⟨h1, h2⟩] at t5
    rw [e2] at t4
    rw [e1] at t5
    rw [h3]
    clear e1 e2 h1 h2 h3
    generalize Ieee.double.word s r = X at *
    go_enter Tryz.func9, Tryz.ntmps9
    go_wp2
    go_ret
    exact ⟨rfl, rfl⟩
end Go.Proofs.YtnlngodbjkefhaaGreatDoor
