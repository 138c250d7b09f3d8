/- The shortest digits of a whole number below 2 to the 53 are its own. Conditions: none. -/
import Derived.Test.YtdkccihoecpcaaaGreatFmtShortP
namespace Go.Proofs.YtdkccihoecpcaaaGreatFmt
open Go
theorem usc_zero (x hi s : Nat) : x * hi / 18446744073709551616 / 2 ^ s ≤ usc x hi 0 s ∧ usc x hi 0 s ≤ (x * hi / 18446744073709551616 / 2 ^ s) / 2 * 2 + 1 := by
  unfold usc
  rw [Nat.mul_zero, Nat.zero_div]
  split
  · rw [if_neg (Nat.not_lt_zero _)]
    split
    · rw [or_one]; omega
    · rw [Nat.or_zero]; omega
  · rw [or_one]; omega
/-- The whole part of p times the logarithm of ten. -/
def lp (p : Nat) : Nat := p * 108853 / 32768
theorem tab_small : ∀ p : Fin 17, tHi (348 + p.val) = 10 ^ p.val * 2 ^ (63 - lp p.val) ∧ tLo (348 + p.val) = 0 ∧ lp p.val ≤ 53 := by decide +kernel
/-- The power of ten, by how many bits the number has. -/
def pA (k : Nat) : Nat := (-skw ((k : Int) - 53)).toNat
def pB (k : Nat) : Nat := (-l10 ((k : Int) - 53)).toNat
theorem p_all : ∀ k : Fin 54, 1 ≤ k.val → (pA k.val ≤ 16 ∧ 1 ≤ pA k.val ∧ ((pA k.val : Nat) : Int) = -skw ((k.val : Int) - 53) ∧ k.val + lp (pA k.val) ≤ 56 ∧ 2 * 2 ^ (62 - k.val) ≤ 1024 * 10 ^ pA k.val ∧ 1024 * 10 ^ pA k.val < 28 * 2 ^ (62 - k.val)) ∧
    (pB k.val ≤ 16 ∧ (k.val < 53 → 1 ≤ pB k.val) ∧ (k.val = 53 → pB k.val = 0) ∧ ((pB k.val : Nat) : Int) = -l10 ((k.val : Int) - 53) ∧ k.val + lp (pB k.val) ≤ 56 ∧ 2 * 2 ^ (62 - k.val) ≤ 1024 * 10 ^ pB k.val ∧ 1024 * 10 ^ pB k.val < 28 * 2 ^ (62 - k.val)) := by decide +kernel
theorem quot_small (x p k : Nat) (hk : k + lp p ≤ 61) (hl : lp p ≤ 63) : x * (10 ^ p * 2 ^ (63 - lp p)) / 18446744073709551616 / 2 ^ (61 - k - lp p) = x * 10 ^ p / 2 ^ (62 - k) := by
  have e64 : (18446744073709551616 : Nat) = 2 ^ 64 := by decide
  rw [Nat.div_div_eq_div_mul, e64, ← Nat.pow_add, show 64 + (61 - k - lp p) = (62 - k) + (63 - lp p) from by omega, Nat.pow_add, ← Nat.mul_assoc, Nat.mul_div_mul_right _ _ (Nat.two_pow_pos _)]
/-- The scaled bounds, for one power of ten. -/
theorem small_bounds (n k p : Nat) (h1 : 2 ^ (k - 1) ≤ n) (hk1 : 1 ≤ k) (hk2 : k ≤ 53) (hp : p ≤ 16) (hlp : k + lp p ≤ 56) (hd1 : 2 * 2 ^ (62 - k) ≤ 1024 * 10 ^ p) (g : Nat) (hg : 1 ≤ g) (hg2 : g ≤ 1024) :
    (4 * (n * 10 ^ p) + 2 ≤ usc (n * 2 ^ (64 - k) + 1024) (tHi (348 + p)) (tLo (348 + p)) (61 - k - lp p) ∧ usc (n * 2 ^ (64 - k) + 1024) (tHi (348 + p)) (tLo (348 + p)) (61 - k - lp p) ≤ (4 * (n * 10 ^ p) + 1024 * 10 ^ p / 2 ^ (62 - k)) / 2 * 2 + 1) ∧
    ((n * 2 ^ (64 - k) - g) * 10 ^ p / 2 ^ (62 - k) ≤ usc (n * 2 ^ (64 - k) - g) (tHi (348 + p)) (tLo (348 + p)) (61 - k - lp p) ∧ usc (n * 2 ^ (64 - k) - g) (tHi (348 + p)) (tLo (348 + p)) (61 - k - lp p) ≤ 4 * (n * 10 ^ p) - 1) := by
  obtain ⟨t1, t2, t3⟩ := tab_small ⟨p, by omega⟩
  simp only at t1 t2 t3
  have tb := (tHi_bd (i := 348 + p) (by omega)).1
  have hD := Nat.two_pow_pos (62 - k)
  have e4 : 2 ^ (64 - k) = 4 * 2 ^ (62 - k) := by rw [show 64 - k = (62 - k) + 2 from by omega, Nat.pow_add]; omega
  have hm63 : 9223372036854775808 ≤ n * 2 ^ (64 - k) := by
    have e : (9223372036854775808 : Nat) = 2 ^ (k - 1) * 2 ^ (64 - k) := by rw [← Nat.pow_add, show k - 1 + (64 - k) = 63 from by omega]
    rw [e]; exact Nat.mul_le_mul_right _ h1
  have u1 := usc_zero (n * 2 ^ (64 - k) + 1024) (tHi (348 + p)) (61 - k - lp p)
  have u2 := usc_zero (n * 2 ^ (64 - k) - g) (tHi (348 + p)) (61 - k - lp p)
  rw [t2]
  rw [t1, quot_small _ p k (by omega) (by omega)] at u1 u2
  rw [t1]
  have x1 : (n * 2 ^ (64 - k) + 1024) * 10 ^ p / 2 ^ (62 - k) = 4 * (n * 10 ^ p) + 1024 * 10 ^ p / 2 ^ (62 - k) := by
    have : (n * 2 ^ (64 - k) + 1024) * 10 ^ p = 2 ^ (62 - k) * (4 * (n * 10 ^ p)) + 1024 * 10 ^ p := by
      rw [Nat.add_mul, e4]
      congr 1
      ac_rfl
    rw [this, Nat.mul_add_div hD]
  have hp10 : 1 ≤ 10 ^ p := Nat.pos_of_ne_zero (by have := Nat.pow_pos (n := p) (show 0 < 10 by decide); omega)
  have x2 : (n * 2 ^ (64 - k) - g) * 10 ^ p / 2 ^ (62 - k) ≤ 4 * (n * 10 ^ p) - 1 := by
    have h3 : (n * 2 ^ (64 - k) - g) * 10 ^ p < 2 ^ (62 - k) * (4 * (n * 10 ^ p)) := by
      have e : 2 ^ (62 - k) * (4 * (n * 10 ^ p)) = n * 2 ^ (64 - k) * 10 ^ p := by rw [e4]; ac_rfl
      rw [e]
      exact (Nat.mul_lt_mul_right hp10).2 (by omega)
    have := (Nat.div_lt_iff_lt_mul hD).2 (by rw [Nat.mul_comm _ (2 ^ (62 - k))]; exact h3)
    omega
  rw [x1] at u1
  have d1 : 2 ≤ 1024 * 10 ^ p / 2 ^ (62 - k) := by rw [Nat.le_div_iff_mul_le hD]; exact hd1
  have hX : 1 ≤ n * 10 ^ p := Nat.mul_pos (by have := Nat.two_pow_pos (k - 1); omega) hp10
  refine ⟨⟨by omega, u1.2⟩, u2.1, ?_⟩
  have := u2.2
  omega
/-- The shortest digits of a whole number. -/
theorem int_short (n k : Nat) (h1 : 2 ^ (k - 1) ≤ n) (h2 : n < 2 ^ k) (hk1 : 1 ≤ k) (hk2 : k ≤ 53) :
    (∃ q : Nat, q ≤ 16 ∧ shD (n * 2 ^ (64 - k)) ((k : Int) - 64) = n * 10 ^ q ∧ shP (n * 2 ^ (64 - k)) ((k : Int) - 64) = -(q : Int)) ∨ (shD (n * 2 ^ (64 - k)) ((k : Int) - 64) * 10 = n ∧ shP (n * 2 ^ (64 - k)) ((k : Int) - 64) = 1) := by
  obtain ⟨⟨a1, a2, a3, a4, a5, a6⟩, b1, b2, b3, b4, b5, b6, b7⟩ := p_all ⟨k, by omega⟩ hk1
  simp only at a1 a2 a3 a4 a5 a6 b1 b2 b3 b4 b5 b6 b7
  have hm63 : 9223372036854775808 ≤ n * 2 ^ (64 - k) := by
    have e : (9223372036854775808 : Nat) = 2 ^ (k - 1) * 2 ^ (64 - k) := by rw [← Nat.pow_add, show k - 1 + (64 - k) = 63 from by omega]
    rw [e]; exact Nat.mul_le_mul_right _ h1
  have hz : sZ ((k : Int) - 64) = 11 := by unfold sZ; rw [if_pos (by omega)]
  have ho : sOdd (n * 2 ^ (64 - k)) ((k : Int) - 64) ≤ 1 := by unfold sOdd; omega
  have hmx : sMax (n * 2 ^ (64 - k)) ((k : Int) - 64) = n * 2 ^ (64 - k) + 1024 := by unfold sMax; rw [hz]
  -- the two cases: which power of ten, how far down the lower bound lies
  obtain ⟨p, g, hp, hg1, hg2, hsp, hmn, hlp, hd1, hd2, hp0⟩ : ∃ p g : Nat, p ≤ 16 ∧ 1 ≤ g ∧ g ≤ 1024 ∧ sP (n * 2 ^ (64 - k)) ((k : Int) - 64) = (p : Int) ∧ sMin (n * 2 ^ (64 - k)) ((k : Int) - 64) = n * 2 ^ (64 - k) - g ∧ k + lp p ≤ 56 ∧ 2 * 2 ^ (62 - k) ≤ 1024 * 10 ^ p ∧ 1024 * 10 ^ p < 28 * 2 ^ (62 - k) ∧ (p = 0 → k = 53 ∧ g = 1024) := by
    by_cases hc : n * 2 ^ (64 - k) = 9223372036854775808
    · refine ⟨pA k, 512, a1, by omega, by omega, ?_, ?_, a4, a5, a6, fun h => by omega⟩
      · unfold sP; rw [if_pos ⟨hc, by omega⟩, a3, show (k : Int) - 64 + 11 = (k : Int) - 53 from by omega]
      · unfold sMin; rw [if_pos ⟨hc, by omega⟩]
    · refine ⟨pB k, 1024, b1, by omega, by omega, ?_, ?_, b5, b6, b7, fun h => ⟨by rcases Nat.lt_or_ge k 53 with h' | h'; have := b2 h'; omega; omega, rfl⟩⟩
      · unfold sP; rw [if_neg (fun h => hc h.1), if_pos (by omega), b4, show (k : Int) - 64 + 11 = (k : Int) - 53 from by omega]
      · unfold sMin; rw [if_neg (fun h => hc h.1), hz]
  have hI : sI (n * 2 ^ (64 - k)) ((k : Int) - 64) = 348 + p := by unfold sI; rw [hsp]; omega
  have hS : sS (n * 2 ^ (64 - k)) ((k : Int) - 64) = 61 - k - lp p := by
    unfold sS l2t
    rw [hsp]
    have : ((lp p : Nat) : Int) = (p : Int) * 108853 / 32768 := by unfold lp; omega
    omega
  obtain ⟨⟨u1, u2⟩, u3, u4⟩ := small_bounds n k p h1 hk1 hk2 hp hlp hd1 g hg1 hg2
  have hD := Nat.two_pow_pos (62 - k)
  have hq : 1024 * 10 ^ p / 2 ^ (62 - k) ≤ 27 := by have := (Nat.div_lt_iff_lt_mul hD).2 hd2; omega
  have hX : 1 ≤ n * 10 ^ p := Nat.mul_pos (by have := Nat.two_pow_pos (k - 1); omega) (Nat.pow_pos (by decide))
  have hmaxv : n * 10 ^ p ≤ dMax (n * 2 ^ (64 - k)) ((k : Int) - 64) ∧ dMax (n * 2 ^ (64 - k)) ((k : Int) - 64) ≤ n * 10 ^ p + 6 := by
    unfold dMax
    rw [hI, hS, hmx]
    omega
  have hminv : dMin (n * 2 ^ (64 - k)) ((k : Int) - 64) ≤ n * 10 ^ p := by
    unfold dMin
    rw [hI, hS, hmn]
    omega
  by_cases hp1 : p = 0
  · obtain ⟨hk, hg⟩ := hp0 hp1
    subst hp1
    subst hg
    subst hk
    rw [Nat.pow_zero, Nat.mul_one] at *
    have e11 : (2 : Nat) ^ (62 - 53) = 512 := by decide
    have e12 : (2 : Nat) ^ (64 - 53) = 2048 := by decide
    have hx1 : dMax (n * 2 ^ (64 - 53)) (((53 : Nat) : Int) - 64) = n := by
      have : 1024 * 1 / 2 ^ (62 - 53) = 2 := by decide
      rw [this] at u2
      unfold dMax
      rw [hI, hS, hmx]
      omega
    have hx2 : dMin (n * 2 ^ (64 - 53)) (((53 : Nat) : Int) - 64) = n := by
      have h4 : 4 * n - 2 ≤ (n * 2 ^ (64 - 53) - 1024) * 1 / 2 ^ (62 - 53) := by
        rw [e11, e12]; omega
      have h5 : n ≤ dMin (n * 2 ^ (64 - 53)) (((53 : Nat) : Int) - 64) := by
        unfold dMin
        rw [hI, hS, hmn]
        omega
      omega
    by_cases h10 : n ≤ n / 10 * 10
    · right
      unfold shD shP
      rw [hx1, hx2, if_pos h10, if_pos h10, hsp]
      omega
    · left
      refine ⟨0, by omega, ?_, ?_⟩
      · unfold shD
        rw [hx1, hx2, if_neg h10, if_neg (Nat.lt_irrefl _), Nat.pow_zero, Nat.mul_one]
      · unfold shP
        rw [hx1, hx2, if_neg h10, hsp]
  · left
    obtain ⟨q, rfl⟩ : ∃ q, p = q + 1 := ⟨p - 1, by omega⟩
    have e10 : n * 10 ^ (q + 1) = n * 10 ^ q * 10 := by rw [Nat.pow_succ, Nat.mul_assoc]
    rw [e10] at hmaxv hminv
    have hd : dMax (n * 2 ^ (64 - k)) ((k : Int) - 64) / 10 = n * 10 ^ q := by omega
    refine ⟨q, by omega, ?_, ?_⟩
    · unfold shD
      rw [hd, if_pos hminv]
    · unfold shP
      rw [hd, if_pos hminv, hsp]
      omega
end Go.Proofs.YtdkccihoecpcaaaGreatFmt
