/- The builtins max and min of a finite float and the greatest. Conditions: finite. -/
import Derived.Test.YtdkccihoecpcaaaGreatFmtFlW
namespace Go.Proofs.YtdkccihoecpcaaaGreatFmt
open Go.RowKit Go
theorem w_lo : Ieee.double.word true 9218868437227405311 = 18442240474082181119 := by decide
theorem w_hi : Ieee.double.word false 9218868437227405311 = 9218868437227405311 := by decide
theorem sv_lo (s : Bool) (r : Nat) (hr : r ≤ 9218868437227405311) : sv true 9218868437227405311 ≤ sv s r := by cases s <;> simp [sv] <;> omega
theorem sv_hi (s : Bool) (r : Nat) (hr : r ≤ 9218868437227405311) : sv s r ≤ sv false 9218868437227405311 := by cases s <;> simp [sv] <;> omega
theorem run_maxf (s : Bool) (r : Nat) (hr : r ≤ 9218868437227405311) (t : TypeId) (ts : Array TypeId) (w : World) : (Builtin.max_ ts t #[.float .f64 (Ieee.double.word s r), .float .f64 18442240474082181119]).run Tryz.prog w = .ok (.float .f64 (Ieee.double.word s r)) w := by
  have h1 := sv_lo s r hr
  obtain ⟨a1, a2, a3⟩ := ord_pair s true r 9218868437227405311 (by omega) (by omega)
  rw [w_lo] at a1 a2 a3
  rw [decide_eq_false (by omega)] at a1
  simp [Builtin.max_, Builtin.max2]
  cases ho : FloatKind.f64.format.order (Ieee.double.word s r) 18442240474082181119 with
  | none =>
    rw [ho] at a2 a3
    have b2 : ¬ (sv true 9218868437227405311 < sv s r) := of_decide_eq_false (by rw [← a2]; rfl)
    have b3 : ¬ (sv s r = sv true 9218868437227405311) := of_decide_eq_false (by rw [← a3]; rfl)
    omega
  | some c =>
    cases c with
    | lt => rw [ho] at a1; cases a1
    | gt => simp
    | eq =>
      rw [ho] at a3
      have b3 : sv s r = sv true 9218868437227405311 := of_decide_eq_true a3.symm
      have e : s = true ∧ r = 9218868437227405311 := by
        cases s
        · exfalso; unfold sv at b3; simp at b3; try omega
        · simp [sv] at b3; exact ⟨rfl, by omega⟩
      obtain ⟨rfl, rfl⟩ := e
      rw [w_lo]
      simp
theorem run_minf (s : Bool) (r : Nat) (hr : r ≤ 9218868437227405311) (t : TypeId) (ts : Array TypeId) (w : World) : (Builtin.min_ ts t #[.float .f64 (Ieee.double.word s r), .float .f64 9218868437227405311]).run Tryz.prog w = .ok (.float .f64 (Ieee.double.word s r)) w := by
  have h1 := sv_hi s r hr
  obtain ⟨a1, a2, a3⟩ := ord_pair s false r 9218868437227405311 (by omega) (by omega)
  rw [w_hi] at a1 a2 a3
  rw [decide_eq_false (by omega)] at a2
  simp [Builtin.min_, Builtin.min2]
  cases ho : FloatKind.f64.format.order (Ieee.double.word s r) 9218868437227405311 with
  | none =>
    rw [ho] at a1 a3
    have b2 : ¬ (sv s r < sv false 9218868437227405311) := of_decide_eq_false (by rw [← a1]; rfl)
    have b3 : ¬ (sv s r = sv false 9218868437227405311) := of_decide_eq_false (by rw [← a3]; rfl)
    omega
  | some c =>
    cases c with
    | lt => simp
    | gt => rw [ho] at a2; cases a2
    | eq =>
      rw [ho] at a3
      have b3 : sv s r = sv false 9218868437227405311 := of_decide_eq_true a3.symm
      have e : s = false ∧ r = 9218868437227405311 := by
        cases s
        · simp [sv] at b3; exact ⟨rfl, by omega⟩
        · exfalso; unfold sv at b3; simp at b3; try omega
      obtain ⟨rfl, rfl⟩ := e
      rw [w_hi]
      simp
end Go.Proofs.YtdkccihoecpcaaaGreatFmt
