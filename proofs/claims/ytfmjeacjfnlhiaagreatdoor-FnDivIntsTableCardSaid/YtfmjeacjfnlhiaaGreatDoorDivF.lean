/- Ints as floats, and their quotients: what 'float64(n)' is, that a quotient of two ints is no NaN, that an exact quotient of small ints is the float of the quotient. Conditions: none. -/
import Derived.Test.YtfmjeacjfnlhiaaGreatDoorFloatSum
namespace Go.Proofs.YtfmjeacjfnlhiaaGreatDoor
open Go
theorem nearest_word (s : Bool) (m : Nat) (p : Int) : ∃ r, r ≤ Ieee.double.infRung ∧ Ieee.double.nearest s m p = Ieee.double.word s r := by
  unfold Ieee.Format.nearest
  split
  · exact ⟨0, Nat.zero_le _, rfl⟩
  · exact ⟨_, Nat.min_le_right _ _, rfl⟩
theorem write_word (s : Bool) (m : Nat) (p : Int) : ∃ r, r ≤ Ieee.double.infRung ∧ Ieee.double.write (.number s m p) = Ieee.double.word s r := nearest_word s m p
/-- A number cut to 53 digits keeps 53 digits. -/
theorem toNat_le_one : ∀ b : Bool, b.toNat ≤ 1 := fun b => by cases b <;> simp
theorem cut_bounds (s : Bool) (m : Nat) (hm : 0 < m) (l : Int) (hl : l = (m.log2 : Int) - 52) :
    E52 ≤ Ieee.Toward.even.cut s (m <<< (0 - l).toNat) (l - 0).toNat ∧ Ieee.Toward.even.cut s (m <<< (0 - l).toNat) (l - 0).toNat ≤ 2 * E52 := by
  have e52 : E52 = 2 ^ 52 := by decide
  have e53 : 2 * E52 = 2 ^ 53 := by decide
  have h1 := Nat.log2_self_le (Nat.ne_of_gt hm)
  have h2 := Nat.lt_log2_self (n := m)
  unfold Ieee.Toward.cut
  by_cases hc : m.log2 ≤ 52
  · have a1 : (0 - l).toNat = 52 - m.log2 := by omega
    have a2 : (l - 0).toNat = 0 := by omega
    have b1 : E52 ≤ m * 2 ^ (52 - m.log2) := by
      have : E52 = 2 ^ m.log2 * 2 ^ (52 - m.log2) := by rw [← Nat.pow_add, show m.log2 + (52 - m.log2) = 52 from by omega]
      rw [this]; exact Nat.mul_le_mul_right _ h1
    have b2 : m * 2 ^ (52 - m.log2) < 2 * E52 := by
      have : 2 * E52 = 2 ^ (m.log2 + 1) * 2 ^ (52 - m.log2) := by rw [← Nat.pow_add, show m.log2 + 1 + (52 - m.log2) = 53 from by omega, e53]
      rw [this]; exact (Nat.mul_lt_mul_right (pow_pos2 _)).2 h2
    have e : (m <<< (0 - l).toNat) / (1 <<< min (l - 0).toNat ((m <<< (0 - l).toNat).log2 + 2)) = m * 2 ^ (52 - m.log2) := by
      rw [a1, a2, Nat.zero_min, Nat.shiftLeft_zero, Nat.div_one, Nat.shiftLeft_eq]
    refine ⟨Nat.le_trans ?_ (Nat.le_add_right _ _), Nat.le_trans (Nat.add_le_add_left (toNat_le_one _) _) ?_⟩
    · rw [e]; exact b1
    · rw [e]; omega
  · have a1 : (0 - l).toNat = 0 := by omega
    obtain ⟨d, hd⟩ : ∃ d, m.log2 = 52 + d := ⟨m.log2 - 52, by omega⟩
    have a2 : (l - 0).toNat = d := by omega
    have a3 : min d (m.log2 + 2) = d := by omega
    have b1 : E52 ≤ m / 2 ^ d := by
      rw [Nat.le_div_iff_mul_le (pow_pos2 d), e52, ← Nat.pow_add, ← hd]; exact h1
    have b2 : m / 2 ^ d < 2 * E52 := by
      rw [Nat.div_lt_iff_lt_mul (pow_pos2 d)]
      have : 2 * E52 * 2 ^ d = 2 ^ (m.log2 + 1) := by rw [hd, show 52 + d + 1 = 53 + d from by omega, Nat.pow_add, e53]
      rw [this]; exact h2
    have e : (m <<< (0 - l).toNat) / (1 <<< min (l - 0).toNat ((m <<< (0 - l).toNat).log2 + 2)) = m / 2 ^ d := by
      rw [a1, a2, Nat.shiftLeft_zero, a3, Nat.one_shiftLeft]
    refine ⟨Nat.le_trans ?_ (Nat.le_add_right _ _), Nat.le_trans (Nat.add_le_add_left (toNat_le_one _) _) ?_⟩
    · rw [e]; exact b1
    · rw [e]; omega
/-- What an int is as a float: a finite word, zero for zero alone. -/
theorem of_int (n : Int) (h : n.natAbs ≤ 9223372036854775808) : ∃ r, r < Ieee.double.infRung ∧ floatOfInt .f64 n = Ieee.double.word (decide (n < 0)) r ∧ (r = 0 ↔ n = 0) := by
  by_cases h0 : n = 0
  · subst h0
    exact ⟨0, by rw [d_inf]; omega, by decide, by simp⟩
  · have hm : 0 < n.natAbs := by omega
    show ∃ r, r < Ieee.double.infRung ∧ Ieee.double.nearest (decide (n < 0)) n.natAbs 0 = _ ∧ _
    have hlog : n.natAbs.log2 < 64 := by
      rw [Nat.log2_lt (by omega)]
      have : (2 : Nat) ^ 64 = 18446744073709551616 := by decide
      omega
    obtain ⟨b1, b2⟩ := cut_bounds (decide (n < 0)) n.natAbs hm _ rfl
    unfold Ieee.Format.nearest
    rw [if_neg (by omega)]
    simp only [d_fraction, d_least, d_binade]
    have hl2 : max ((0 : Int) + (n.natAbs.log2 : Int) - ((52 : Nat) : Int)) (-1074) = (n.natAbs.log2 : Int) - 52 := by omega
    rw [hl2]
    generalize Ieee.Toward.even.cut (decide (n < 0)) (n.natAbs <<< (0 - ((n.natAbs.log2 : Int) - 52)).toNat) ((n.natAbs.log2 : Int) - 52 - 0).toNat = kept at *
    obtain ⟨pz, hpz⟩ : ∃ pz, pz = ((n.natAbs.log2 : Int) - 52 - -1074).toNat := ⟨_, rfl⟩
    have hpz2 : pz ≤ 1085 := by omega
    rw [← hpz]
    have hle : pz * E52 ≤ 1085 * E52 := Nat.mul_le_mul_right _ hpz2
    have hfin : pz * E52 + kept < Ieee.double.infRung := by rw [d_inf]; unfold E52 at *; omega
    refine ⟨pz * E52 + kept, hfin, by rw [Nat.min_eq_left (Nat.le_of_lt hfin)], ?_⟩
    constructor
    · intro e; unfold E52 at *; omega
    · intro e; exact absurd e h0
theorem pow_up (a k : Nat) : a * 2 ^ (k + 1) = 2 * a * 2 ^ k := by rw [Nat.pow_succ]; ac_rfl
theorem pow_split (e n : Nat) (h : e ≤ n) : 2 ^ (n + 1) = 2 * (2 ^ e * 2 ^ (n - e)) := by
  rw [← Nat.pow_add, show e + (n - e) = n from by omega, Nat.pow_succ, Nat.mul_comm]
/-- The unit. -/
def U0 : Nat := 2 ^ (0 + 1074 : Int).toNat
/-- A small int is a float exactly. -/
theorem of_small (n : Int) (h : n.natAbs ≤ 2 * E52) : ∃ u, u < Ieee.double.infRung ∧ floatOfInt .f64 n = Ieee.double.word (decide (n < 0)) u ∧ val u = n.natAbs * U0 := by
  by_cases h0 : n = 0
  · subst h0
    exact ⟨0, by rw [d_inf]; omega, by decide, by simp [val_zero]⟩
  · obtain ⟨u, h1, h2⟩ : ∃ u, u < Ieee.double.infRung ∧ val u = n.natAbs * 2 ^ (0 + 1074 : Int).toNat := by
      by_cases e : n.natAbs < 2 * E52
      · exact is_float _ _ e (by omega)
      · have e' : n.natAbs = 2 * E52 := by omega
        obtain ⟨u, h1, h2⟩ := is_float ((0 + 1074 : Int).toNat + 1) E52 (by decide) (by omega)
        exact ⟨u, h1, by rw [h2, e', pow_up]⟩
    exact ⟨u, h1, write_val _ _ 0 u (by omega) h1 (by omega) h2.symm, h2⟩
/-- A quotient of two finite floats, the second not zero, is no NaN. -/
theorem div_some (s t : Bool) (r q : Nat) (hr : r < Ieee.double.infRung) (hq : q < Ieee.double.infRung) (h0 : 0 < q) :
    ∃ u, u ≤ Ieee.double.infRung ∧ Ieee.double.div (Ieee.double.word s r) (Ieee.double.word t q) = some (Ieee.double.word (s ^^ t) u) := by
  unfold Ieee.Format.div
  rw [read_finite s r hr, read_finite t q hq]
  have hn : mg q ≠ 0 := Nat.ne_of_gt (mg_pos h0)
  unfold Ieee.Datum.quotient
  simp only [if_neg hn, Option.map_some]
  obtain ⟨u, h1, h2⟩ := write_word (s ^^ t) (2 * ((mg r <<< (Ieee.double.fractionBits + 2 + (mg q).log2 - (mg r).log2)) / mg q) + ((mg r <<< (Ieee.double.fractionBits + 2 + (mg q).log2 - (mg r).log2)) % mg q != 0).toNat) (pl r - pl q - ((Ieee.double.fractionBits + 2 + (mg q).log2 - (mg r).log2 : Nat) : Int) - 1)
  exact ⟨u, h1, by rw [h2]⟩
/-- Zero by a finite float that is not zero. -/
theorem div_zero_left (s t : Bool) (q : Nat) (hq : q < Ieee.double.infRung) (h0 : 0 < q) :
    Ieee.double.div (Ieee.double.word s 0) (Ieee.double.word t q) = some (Ieee.double.word (s ^^ t) 0) := by
  unfold Ieee.Format.div
  rw [read_finite s 0 (by rw [d_inf]; omega), read_finite t q hq]
  have hn : mg q ≠ 0 := Nat.ne_of_gt (mg_pos h0)
  unfold Ieee.Datum.quotient
  simp only [if_neg hn, Option.map_some]
  have e : mg 0 = 0 := rfl
  rw [e]
  simp only [Nat.zero_shiftLeft, Nat.zero_div, Nat.zero_mod]
  exact congrArg some (write_zero _ _)
theorem log2_val {r : Nat} (h : 0 < r) : ((val r).log2 : Int) = (mg r).log2 + (pl r + 1074) := by
  unfold val
  rw [log2_mul_pow (mg_pos h)]
  have := pl_ge r
  omega
theorem log2_mg_le {r : Nat} (h : 0 < r) : (mg r).log2 ≤ 52 := by
  by_cases e : r < E52
  · have e1 : mg r = r := by unfold mg; rw [if_pos e]
    rw [e1]
    exact Nat.le_of_lt (log2_low e h)
  · have := mg_normal (r := r) (by omega)
    rw [log2_top this.1 this.2]
    exact Nat.le_refl _
/-- An exact quotient. -/
theorem div_exact (s t : Bool) (r q u c : Nat) (hr : r < Ieee.double.infRung) (hq : q < Ieee.double.infRung) (hu : u < Ieee.double.infRung) (h0 : 0 < q) (h1 : 0 < r) (hc : 0 < c) (hc' : c ≤ 2 * E52)
    (hv : val r = c * val q) (hvu : val u = c * U0) : Ieee.double.div (Ieee.double.word s r) (Ieee.double.word t q) = some (Ieee.double.word (s ^^ t) u) := by
  have hQ := mg_pos h0
  have hR := mg_pos h1
  have l1 := log2_val h1
  have l2 := log2_val h0
  have l3 := log2_mg_le h1
  have l4 := log2_mg_le h0
  have p1 := pl_ge r
  have p2 := pl_ge q
  have hvq := val_pos h0
  have lo : (val q).log2 ≤ (val r).log2 := by
    rw [Nat.le_log2 (by have := val_pos h1; omega)]
    have := Nat.log2_self_le (Nat.ne_of_gt hvq)
    rw [hv]
    exact Nat.le_trans this (Nat.le_mul_of_pos_left _ hc)
  have hi : (val r).log2 ≤ (val q).log2 + 54 := by
    have a := Nat.lt_log2_self (n := val q)
    have b : val r < 2 ^ ((val q).log2 + 55) := by
      rw [hv, show (val q).log2 + 55 = (val q).log2 + 1 + 54 from by omega, Nat.pow_add, Nat.mul_comm c]
      have c54 : c < 2 ^ 54 := by have : (2 : Nat) ^ 54 = 4 * E52 := by decide
                                  unfold E52 at *; omega
      exact Nat.mul_lt_mul_of_lt_of_lt a c54
    have := (Nat.log2_lt (by have := val_pos h1; omega)).2 b
    omega
  obtain ⟨more, hmore⟩ : ∃ more, more = Ieee.double.fractionBits + 2 + (mg q).log2 - (mg r).log2 := ⟨_, rfl⟩
  have hm2 : (more : Int) = 54 + (mg q).log2 - (mg r).log2 := by rw [hmore, d_fraction]; omega
  obtain ⟨e, he⟩ : ∃ e : Nat, (e : Int) = pl q - pl r + more := ⟨(pl q - pl r + more).toNat, by omega⟩
  have he54 : e ≤ 54 := by omega
  have hdiv : mg r * 2 ^ more = mg q * (c * 2 ^ e) := by
    unfold val at hv
    have hpw : 0 < 2 ^ (pl r + 1074).toNat := pow_pos2 _
    apply Nat.eq_of_mul_eq_mul_right hpw
    have e1 : e + (pl r + 1074).toNat = more + (pl q + 1074).toNat := by omega
    calc mg r * 2 ^ more * 2 ^ (pl r + 1074).toNat = (mg r * 2 ^ (pl r + 1074).toNat) * 2 ^ more := by rw [Nat.mul_right_comm]
      _ = c * (mg q * 2 ^ (pl q + 1074).toNat) * 2 ^ more := by rw [hv]
      _ = mg q * c * (2 ^ more * 2 ^ (pl q + 1074).toNat) := by ac_rfl
      _ = mg q * c * (2 ^ e * 2 ^ (pl r + 1074).toNat) := by rw [← Nat.pow_add, ← Nat.pow_add, e1]
      _ = mg q * (c * 2 ^ e) * 2 ^ (pl r + 1074).toNat := by ac_rfl
  unfold Ieee.Format.div
  rw [read_finite s r hr, read_finite t q hq]
  unfold Ieee.Datum.quotient
  simp only [if_neg (Nat.ne_of_gt hQ), Option.map_some]
  rw [← hmore, Nat.shiftLeft_eq, hdiv, Nat.mul_div_cancel_left _ hQ, Nat.mul_mod_right]
  have ez : ((0 : Nat) != 0).toNat = 0 := rfl
  rw [ez, Nat.add_zero]
  congr 1
  have hpe : pl r - pl q - (more : Int) - 1 = -(e : Int) - 1 := by omega
  rw [hpe]
  refine write_val _ _ _ u (by omega) hu (Nat.mul_pos (by omega) (Nat.mul_pos hc (pow_pos2 e))) ?_
  rw [hvu]
  have e2 : (-(e : Int) - 1 + 1074).toNat = 1073 - e := by omega
  have e3 : U0 = 2 * (2 ^ e * 2 ^ (1073 - e)) := by
    unfold U0
    rw [show (0 + 1074 : Int).toNat = 1073 + 1 from rfl]
    exact pow_split e 1073 (by omega)
  rw [e2, e3]
  ac_rfl
end Go.Proofs.YtfmjeacjfnlhiaaGreatDoor
