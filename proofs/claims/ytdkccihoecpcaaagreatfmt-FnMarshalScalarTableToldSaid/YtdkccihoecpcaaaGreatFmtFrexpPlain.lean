/- The exponent and the significand that counting halvings and doublings finds, as plain functions of the rung. Conditions: none. -/
import Derived.Test.YtdkccihoecpcaaaGreatFmtFloat
namespace Go.Proofs.YtdkccihoecpcaaaGreatFmt
open Go
/-- The rung of one half, and of one. -/
abbrev HALF : Nat := 4602678819172646912
abbrev ONE : Nat := 4607182418800017408
/-- How many halvings bring the rung's value into [1/2, 1). -/
def expOf (r : Nat) : Int := if r < E52 then (r.log2 : Int) - 1073 else ((r / E52 : Nat) : Int) - 1022
/-- The rung of what is then left. -/
def sigOf (r : Nat) : Nat := if r < E52 then HALF + (r * 2 ^ (52 - r.log2) - E52) else HALF + r % E52
theorem half_eq : HALF = 1022 * E52 := by decide
theorem one_eq : ONE = 1023 * E52 := by decide
theorem expOf_bounds {r : Nat} (h0 : 0 < r) (h : r < Ieee.double.infRung) : -1073 ≤ expOf r ∧ expOf r ≤ 1024 := by
  rw [d_inf] at h
  unfold expOf
  split
  · rename_i hl; have := log2_low hl h0; omega
  · unfold E52 at *; omega
theorem log2_two_mul {r : Nat} (h0 : 0 < r) : (2 * r).log2 = r.log2 + 1 := by
  have := log2_mul_pow h0 1
  rw [Nat.pow_one, Nat.mul_comm] at this
  exact this
theorem dbl_facts {r : Nat} (h0 : 0 < r) (h : r < HALF) : expOf (dbl r) = expOf r + 1 ∧ sigOf (dbl r) = sigOf r ∧ r < dbl r ∧ dbl r < ONE ∧ dbl r < Ieee.double.infRung := by
  rw [d_inf]
  by_cases hl : r < E52
  · have h3 := log2_low hl h0
    obtain ⟨b1, b2⟩ := sub_bounds h0 hl
    have e3 : dbl r = 2 * r := by unfold dbl; rw [if_pos hl]
    rw [e3]
    by_cases hd : 2 * r < E52
    · refine ⟨?_, ?_, by omega, by unfold ONE E52 at *; omega, by unfold E52 at *; omega⟩
      · unfold expOf; rw [if_pos hd, if_pos hl, log2_two_mul h0]; omega
      · have hh := log2_low hd (by omega)
        rw [log2_two_mul h0] at hh
        unfold sigOf
        rw [if_pos hd, if_pos hl, log2_two_mul h0, show 52 - r.log2 = (52 - (r.log2 + 1)) + 1 from by omega, Nat.pow_succ]
        rw [Nat.mul_comm 2 r, Nat.mul_assoc, Nat.mul_comm 2 (2 ^ _)]
    · have hlog : (2 * r).log2 = 52 := log2_top (by omega) (by omega)
      rw [log2_two_mul h0] at hlog
      have hlr : r.log2 = 51 := by omega
      refine ⟨?_, ?_, by omega, by unfold ONE E52 at *; omega, by unfold E52 at *; omega⟩
      · unfold expOf; rw [if_neg hd, if_pos hl, hlr]
        have : 2 * r / E52 = 1 := by unfold E52 at *; omega
        rw [this]; rfl
      · unfold sigOf
        rw [if_neg hd, if_pos hl, hlr]
        have : 2 * r % E52 = 2 * r - E52 := by unfold E52 at *; omega
        rw [this, show 52 - 51 = 1 from rfl, Nat.pow_one, Nat.mul_comm]
  · have e3 : dbl r = r + E52 := by unfold dbl; rw [if_neg hl]
    rw [e3]
    refine ⟨?_, ?_, by unfold E52; omega, by unfold ONE HALF E52 at *; omega, by unfold HALF E52 at *; omega⟩
    · unfold expOf
      rw [if_neg (by omega), if_neg hl, Nat.add_div_right _ (by decide)]
      omega
    · unfold sigOf
      rw [if_neg (by omega), if_neg hl, Nat.add_mod_right]
theorem half_facts {r : Nat} (h : ONE ≤ r) : expOf (r - E52) = expOf r - 1 ∧ sigOf (r - E52) = sigOf r ∧ 0 < r - E52 := by
  have h1 : ¬ r < E52 := by unfold ONE at h; unfold E52; omega
  have h2 : ¬ r - E52 < E52 := by unfold ONE at h; unfold E52; omega
  have e1 : (r - E52) / E52 = r / E52 - 1 := by unfold E52 at *; omega
  have e2 : (r - E52) % E52 = r % E52 := by unfold E52 at *; omega
  have e3 : 1 ≤ r / E52 := by unfold E52 at *; omega
  refine ⟨?_, ?_, by unfold ONE at h; unfold E52; omega⟩
  · unfold expOf; rw [if_neg h2, if_neg h1, e1]; omega
  · unfold sigOf; rw [if_neg h2, if_neg h1, e2]
theorem end_facts {r : Nat} (h1 : HALF ≤ r) (h2 : r < ONE) : expOf r = 0 ∧ sigOf r = r := by
  have h3 : ¬ r < E52 := by unfold HALF at h1; unfold E52; omega
  have e1 : r / E52 = 1022 := by unfold HALF ONE E52 at *; omega
  refine ⟨?_, ?_⟩
  · unfold expOf; rw [if_neg h3, e1]; rfl
  · unfold sigOf; rw [if_neg h3]; unfold HALF ONE E52 at *; omega
/-- What Go's frexp reckons off the bits, of a normal number and of a subnormal one. -/
theorem frexp_normal {r : Nat} (h : E52 ≤ r) : expOf r = ((r / E52 : Nat) : Int) - 1022 ∧ sigOf r = HALF + r % E52 := by
  unfold expOf sigOf
  rw [if_neg (by omega), if_neg (by omega)]
  exact ⟨rfl, rfl⟩
theorem frexp_low {r : Nat} (h0 : 0 < r) (h : r < E52) : expOf r = -52 + (((lift52 r / E52 : Nat) : Int) - 1022) ∧ sigOf r = HALF + lift52 r % E52 := by
  obtain ⟨_, _, f3, f4, _, _⟩ := lift52_facts h0 h
  rw [f3, f4]
  unfold expOf sigOf
  rw [if_pos h, if_pos h]
  exact ⟨by omega, rfl⟩
end Go.Proofs.YtdkccihoecpcaaaGreatFmt
