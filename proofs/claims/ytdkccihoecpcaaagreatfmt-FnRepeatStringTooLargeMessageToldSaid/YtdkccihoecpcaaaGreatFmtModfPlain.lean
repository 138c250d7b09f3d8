/- Truncation and what is left over, on rungs; the number built bit by bit. Conditions: none. -/
import Derived.Test.YtdkccihoecpcaaaGreatFmtBits
import Derived.Test.YtdkccihoecpcaaaGreatFmtFloatSum
namespace Go.Proofs.YtdkccihoecpcaaaGreatFmt
open Go
/-- The place of one over the least place. -/
def place : Nat := 1074
theorem place_eq : place = 1074 := rfl
/-- One, in units of the least place. -/
def U : Nat := 2 ^ place
theorem U_eq : U = 2 ^ place := rfl
theorem U_pos : 0 < U := Nat.two_pow_pos _
/-- The whole part of a rung's value. -/
def whole (r : Nat) : Nat := val r / U
theorem whole_mul_le (r : Nat) : whole r * U ≤ val r := Nat.div_mul_le_self _ _
theorem val_big : val 4841369599423283200 = E52 * U := by
  have h : ¬ 4841369599423283200 < E52 := by decide
  rw [val_high h]
  have e1 : 4841369599423283200 % E52 = 0 := by decide
  have e2 : 4841369599423283200 / E52 - 1 = place := by decide
  rw [e1, e2, Nat.add_zero, U_eq]
theorem whole_small {r : Nat} (h : r < 4841369599423283200) : whole r < E52 := by
  unfold whole
  rw [Nat.div_lt_iff_lt_mul U_pos, ← val_big]
  exact val_mono h
theorem whole_big {r : Nat} (h : 4841369599423283200 ≤ r) : whole r * U = val r := by
  unfold whole
  have hl : ¬ r < E52 := by unfold E52; omega
  rw [val_high hl]
  have e : r / E52 - 1 = (r / E52 - 1 - place) + place := by rw [place_eq]; unfold E52; omega
  rw [e, Nat.pow_add, ← Nat.mul_assoc]
  show _ * U / U * U = _
  rw [Nat.mul_div_cancel _ U_pos, U_eq]
/-- The whole part is a float. -/
theorem whole_float (r : Nat) (h : r < Ieee.double.infRung) : ∃ u, u < Ieee.double.infRung ∧ val u = whole r * U := by
  by_cases e : r < 4841369599423283200
  · have := whole_small e
    exact is_float place (whole r) (by omega) (by rw [place_eq]; omega)
  · exact ⟨r, h, (whole_big (by omega)).symm⟩
/-- What is left over is a float. -/
theorem rest_float (r : Nat) (h : r < Ieee.double.infRung) : ∃ u, u < Ieee.double.infRung ∧ val u = val r - whole r * U := by
  by_cases e : r < 4841369599423283200
  · by_cases hl : r < E52
    · have hw : whole r = 0 := by
        unfold whole
        rw [val_low hl]
        have e52 : E52 = 2 ^ 52 := by decide
        have h52 : (2 : Nat) ^ 52 ≤ 2 ^ place := Nat.pow_le_pow_right (by decide) (by rw [place_eq]; omega)
        exact Nat.div_eq_of_lt (Nat.lt_of_lt_of_le hl (by rw [e52, U_eq]; exact h52))
      rw [hw, Nat.zero_mul]
      exact ⟨r, h, rfl⟩
    · have hv := val_high hl
      have hk : r / E52 - 1 < 1074 := by unfold E52 at *; omega
      obtain ⟨d, hd⟩ : ∃ d, place = d + (r / E52 - 1) := ⟨place - (r / E52 - 1), by rw [place_eq]; omega⟩
      have hU : U = 2 ^ d * 2 ^ (r / E52 - 1) := by unfold U; rw [← Nat.pow_add, ← hd]
      have hm : E52 + r % E52 < 2 * E52 := by have := Nat.mod_lt r (show 0 < E52 by decide); omega
      have hsub : val r - whole r * U = (E52 + r % E52 - whole r * 2 ^ d) * 2 ^ (r / E52 - 1) := by
        rw [hv, hU, ← Nat.mul_assoc, Nat.sub_mul]
      rw [hsub]
      exact is_float (r / E52 - 1) _ (by omega) (by omega)
  · exact ⟨0, by rw [d_inf]; omega, by rw [whole_big (by omega), Nat.sub_self]; rfl⟩
/-- Cutting towards zero, as the model does it. -/
theorem cut_whole (s : Bool) (r : Nat) : Ieee.Toward.zero.cut s (mg r <<< (pl r).toNat) (-(pl r)).toNat = whole r := by
  unfold Ieee.Toward.cut
  simp only [Bool.toNat_false, Nat.add_zero]
  have hp := pl_ge r
  unfold whole val U
  rw [Nat.one_shiftLeft, Nat.shiftLeft_eq]
  by_cases h : 0 ≤ pl r
  · have e1 : (-(pl r)).toNat = 0 := by omega
    have e2 : (pl r + 1074).toNat = (pl r).toNat + place := by rw [place_eq]; omega
    rw [e1, Nat.zero_min, Nat.pow_zero, Nat.div_one, e2, Nat.pow_add, ← Nat.mul_assoc, Nat.mul_div_cancel _ (pow_pos2 _)]
  · have e1 : (pl r).toNat = 0 := by omega
    rw [e1, Nat.pow_zero, Nat.mul_one]
    have e2 : place = (pl r + 1074).toNat + (-(pl r)).toNat := by rw [place_eq]; omega
    have e3 : mg r * 2 ^ (pl r + 1074).toNat / 2 ^ place = mg r / 2 ^ (-(pl r)).toNat := by
      conv => lhs; rhs; rw [e2, Nat.pow_add]
      rw [Nat.mul_comm (mg r), Nat.mul_div_mul_left _ _ (pow_pos2 _)]
    rw [e3]
    by_cases hd : (-(pl r)).toNat ≤ (mg r).log2 + 2
    · rw [Nat.min_eq_left hd]
    · rw [Nat.min_eq_right (by omega)]
      have hlt := Nat.lt_log2_self (n := mg r)
      rw [Nat.div_eq_of_lt (Nat.lt_of_lt_of_le hlt (Nat.pow_le_pow_right (by decide) (by omega))), Nat.div_eq_of_lt (Nat.lt_of_lt_of_le hlt (Nat.pow_le_pow_right (by decide) (by omega)))]
theorem trunc_word (s : Bool) (r u : Nat) (h : r < Ieee.double.infRung) (hu : u < Ieee.double.infRung) (hv : val u = whole r * U) :
    Ieee.double.write ((Ieee.double.read (Ieee.double.word s r)).integral .zero) = Ieee.double.word s u := by
  rw [read_finite s r h]
  show Ieee.double.write (.number s (Ieee.Toward.zero.cut s (mg r <<< (pl r).toNat) (-(pl r)).toNat) 0) = _
  rw [cut_whole]
  by_cases e : whole r = 0
  · rw [e, Nat.zero_mul] at hv
    have : u = 0 := val_inj.1 (by rw [hv]; rfl)
    rw [e, this, write_zero]
  · exact write_val s (whole r) 0 u (by omega) hu (by omega) (by rw [hv, show ((0 : Int) + 1074).toNat = place from rfl, U_eq])
/-- The difference of two floats of one sign, the greater first. -/
theorem sub_same (s : Bool) (r t u : Nat) (hr : r < Ieee.double.infRung) (ht : t < Ieee.double.infRung) (hu : u < Ieee.double.infRung) (hle : val t ≤ val r) (hv : val u = val r - val t) :
    Ieee.double.sub (Ieee.double.word s r) (Ieee.double.word s t) = some (Ieee.double.word (if u = 0 then false else s) u) := by
  rw [sub_add _ s t ht]
  by_cases e : u = 0
  · rw [if_pos e, e]
    have e2 : val r = val t := by rw [e, val_zero] at hv; omega
    rw [add_cancel s (!s) r t hr ht (by rw [e2]; unfold svn; cases s <;> simp <;> omega)]
    cases s <;> rfl
  · rw [if_neg e]
    exact add_exact s (!s) s r t u hr ht hu (by omega) (by rw [hv]; unfold svn; cases s <;> simp <;> omega)
theorem add_nat (r t u : Nat) (hr : r < Ieee.double.infRung) (ht : t < Ieee.double.infRung) (hu : u < Ieee.double.infRung) (h0 : 0 < u) (hv : val u = val r + val t) : Ieee.double.add r t = some u := by
  have := add_exact false false false r t u hr ht hu h0 (by rw [hv]; unfold svn; simp)
  rw [word_false, word_false, word_false] at this
  exact this
/-- The rung of 2 to the j - 1. -/
def pw (j : Nat) : Nat := (1022 + j) * E52
theorem pw_fin {j : Nat} (h : j ≤ 53) : pw j < 9218868437227405312 := by unfold pw E52; omega
theorem val_pw (j : Nat) : val (pw (j + 1)) = 2 ^ j * U := by
  have h : ¬ pw (j + 1) < E52 := by unfold pw E52; omega
  rw [val_high h]
  unfold pw U
  rw [Nat.mul_mod_left, Nat.mul_div_cancel _ (by decide), Nat.add_zero, show 1022 + (j + 1) - 1 = 1022 + j from by omega]
  have e52 : E52 = 2 ^ 52 := by decide
  rw [e52, ← Nat.pow_add, ← Nat.pow_add]
  congr 1
  rw [place_eq]; omega
theorem pw_top : pw 53 = 4841369599423283200 := by decide
theorem pw_one (j : Nat) : 4607182418800017408 ≤ pw j ↔ 1 ≤ j := by unfold pw E52; omega
theorem pw_half (j : Nat) : pw (j + 1) - E52 = pw j := by unfold pw E52; omega
theorem pw_two (j : Nat) : 2 * E52 ≤ pw j := by unfold pw E52; omega
/-- What the first bits of n make up, the lowest j left out. -/
def head (n j : Nat) : Nat := n / 2 ^ j * 2 ^ j
theorem head_zero (n : Nat) : head n 0 = n := by unfold head; simp
theorem head_top {n j : Nat} (h : n < 2 ^ j) : head n j = 0 := by unfold head; rw [Nat.div_eq_of_lt h, Nat.zero_mul]
theorem head_step (n j : Nat) : (head n (j + 1) + 2 ^ j ≤ n → head n j = head n (j + 1) + 2 ^ j) ∧ (¬ head n (j + 1) + 2 ^ j ≤ n → head n j = head n (j + 1)) := by
  unfold head
  have h1 : n / 2 ^ (j + 1) = n / 2 ^ j / 2 := by rw [Nat.pow_succ, Nat.div_div_eq_div_mul]
  have hp := pow_pos2 j
  have h2 := Nat.div_add_mod n (2 ^ j)
  have h3 := Nat.mod_lt n hp
  rw [h1, Nat.pow_succ]
  generalize n / 2 ^ j = q at *
  generalize n % 2 ^ j = z at *
  generalize 2 ^ j = c at *
  have h4 : q / 2 * (c * 2) = (2 * (q / 2)) * c := by rw [Nat.mul_comm c 2, ← Nat.mul_assoc, Nat.mul_comm (q / 2) 2]
  rw [h4]
  rcases Nat.mod_two_eq_zero_or_one q with e | e
  · have h5 : 2 * (q / 2) = q := by omega
    rw [h5]
    constructor
    · intro h; rw [Nat.mul_comm q c] at h; omega
    · intro _; rfl
  · have h5 : q = 2 * (q / 2) + 1 := by omega
    generalize 2 * (q / 2) = y at *
    subst h5
    rw [Nat.add_mul, Nat.one_mul]
    rw [Nat.mul_comm c, Nat.add_mul, Nat.one_mul] at h2
    constructor
    · intro _; rfl
    · intro h; omega
theorem head_lt {n j : Nat} (hn : n < E52) (hj : j ≤ 52) : head n (j + 1) + 2 ^ j < 2 * E52 := by
  have h1 : head n (j + 1) ≤ n := Nat.div_mul_le_self _ _
  have h2 : 2 ^ j ≤ 2 ^ 52 := Nat.pow_le_pow_right (by decide) hj
  have h3 : (2 : Nat) ^ 52 = E52 := by decide
  omega
/-- Adding the next power and asking whether it is still at most the number. -/
theorem step_float (r t j : Nat) (hr : r < 4841369599423283200) (hj : j ≤ 52) (ht : t < Ieee.double.infRung) (hv : val t = head (whole r) (j + 1) * U) :
    ∃ u, Ieee.double.add t (pw (j + 1)) = some u ∧ u < Ieee.double.infRung ∧ val u = (head (whole r) (j + 1) + 2 ^ j) * U ∧ (u ≤ r ↔ head (whole r) (j + 1) + 2 ^ j ≤ whole r) := by
  have hw := whole_small hr
  obtain ⟨u, h1, h2⟩ := is_float place (head (whole r) (j + 1) + 2 ^ j) (head_lt hw hj) (by rw [place_eq]; omega)
  have h2' : val u = (head (whole r) (j + 1) + 2 ^ j) * U := h2
  have hpos : 0 < u := by
    have hp := pow_pos2 j
    have : 0 < val u := by rw [h2']; exact Nat.mul_pos (by omega) U_pos
    rw [← val_zero] at this
    exact (val_lt_iff 0 u).1 this
  refine ⟨u, add_nat t (pw (j + 1)) u ht (by rw [d_inf]; exact pw_fin (by omega)) h1 hpos (by rw [h2', hv, val_pw, Nat.add_mul]), h1, h2', ?_⟩
  have e1 : u ≤ r ↔ val u ≤ val r := by have := val_lt_iff r u; omega
  rw [e1, h2']
  unfold whole
  exact (Nat.le_div_iff_mul_le U_pos).symm
end Go.Proofs.YtdkccihoecpcaaaGreatFmt
