/- Sums of floats that are exact: in units of the least place; which numbers are floats. Conditions: none. -/
import Derived.Test.YtdkccihoecpcaaaGreatFmtFloat
namespace Go.Proofs.YtdkccihoecpcaaaGreatFmt
open Go
theorem write_val (s : Bool) (m : Nat) (p : Int) (u : Nat) (hp : -1074 ≤ p) (hu : u < Ieee.double.infRung) (hm : 0 < m) (h : m * 2 ^ (p + 1074).toNat = val u) : Ieee.double.write (.number s m p) = Ieee.double.word s u := by
  unfold val at h
  have hpl := pl_ge u
  by_cases hc : p ≤ pl u
  · refine write_exact s m p u (pl u - p).toNat hu hm (Or.inl ⟨?_, by omega⟩)
    have e : (pl u + 1074).toNat = (pl u - p).toNat + (p + 1074).toNat := by omega
    rw [e, Nat.pow_add, ← Nat.mul_assoc] at h
    exact Nat.eq_of_mul_eq_mul_right (pow_pos2 _) h
  · refine write_exact s m p u (p - pl u).toNat hu hm (Or.inr ⟨?_, by omega⟩)
    have e : (p + 1074).toNat = (p - pl u).toNat + (pl u + 1074).toNat := by omega
    rw [e, Nat.pow_add, ← Nat.mul_assoc] at h
    exact Nat.eq_of_mul_eq_mul_right (pow_pos2 _) h
theorem write_zero (s : Bool) (p : Int) : Ieee.double.write (.number s 0 p) = Ieee.double.word s 0 := by
  show Ieee.double.nearest s 0 p = _
  unfold Ieee.Format.nearest
  rw [if_pos rfl]
/-- Every number of at most 53 binary digits, in units of the least place or of a greater one, is a float. -/
theorem is_float : ∀ (e m : Nat), m < 2 * E52 → e + 1 < 2047 → ∃ u, u < Ieee.double.infRung ∧ val u = m * 2 ^ e
  | 0, m, hm, _ => by
    rw [d_inf]
    by_cases h : m < E52
    · exact ⟨m, by unfold E52 at h; omega, by rw [val_low h, Nat.pow_zero, Nat.mul_one]⟩
    · refine ⟨m, by unfold E52 at hm; omega, ?_⟩
      have e1 : m / E52 = 1 := by unfold E52 at *; omega
      have e2 : E52 + m % E52 = m := by unfold E52 at *; omega
      rw [val_high h, e1, e2]
  | e + 1, m, hm, he => by
    by_cases h : m < E52
    · obtain ⟨u, h1, h2⟩ := is_float e (2 * m) (by omega) (by omega)
      exact ⟨u, h1, by rw [h2, Nat.pow_succ, Nat.mul_comm 2 m, Nat.mul_assoc, Nat.mul_comm 2 (2 ^ e)]⟩
    · rw [d_inf]
      have hf : m - E52 < E52 := by omega
      have e1 : ((e + 2) * E52 + (m - E52)) / E52 = e + 2 := by rw [Nat.mul_comm, Nat.mul_add_div (by decide), Nat.div_eq_of_lt hf]
      have e2 : ((e + 2) * E52 + (m - E52)) % E52 = m - E52 := by rw [Nat.mul_comm, Nat.mul_add_mod, Nat.mod_eq_of_lt hf]
      have h3 : (e + 2) * E52 ≤ 2046 * E52 := Nat.mul_le_mul_right _ (by omega)
      have h4 : 2 * E52 ≤ (e + 2) * E52 := Nat.mul_le_mul_right _ (by omega)
      refine ⟨(e + 2) * E52 + (m - E52), by unfold E52 at *; omega, ?_⟩
      rw [val_high (by omega), e1, e2, show E52 + (m - E52) = m from by omega]
      rfl
theorem svn_natAbs (n : Bool) (v : Nat) : (svn n v).natAbs = v := by unfold svn; cases n <;> simp
theorem svn_neg_iff (n : Bool) (v : Nat) (h : 0 < v) : svn n v < 0 ↔ n = true := by unfold svn; cases n <;> simp <;> omega
theorem val_pos {r : Nat} (h : 0 < r) : 0 < val r := by
  have := (val_lt_iff 0 r).2 h
  omega
/-- The exact sum of two finite floats, before it is written. -/
theorem sum_total (s t : Bool) (r q : Nat) (hr : r < Ieee.double.infRung) (hq : q < Ieee.double.infRung) :
    ∃ (T c : Int) (b : Int), Ieee.double.add (Ieee.double.word s r) (Ieee.double.word t q) = some (Ieee.double.write (.number (if T = 0 then s && t else T < 0) T.natAbs b)) ∧ -1074 ≤ b ∧ c = ((2 ^ (b + 1074).toNat : Nat) : Int) ∧ T * c = svn s (val r) + svn t (val q) := by
  have hb1 := pl_ge r
  have hb2 := pl_ge q
  have e1 := signed_scaled s r (min (pl r) (pl q)) (by omega) (by omega)
  have e2 := signed_scaled t q (min (pl r) (pl q)) (by omega) (by omega)
  refine ⟨Ieee.signed s (mg r) (pl r - min (pl r) (pl q)).toNat + Ieee.signed t (mg q) (pl q - min (pl r) (pl q)).toNat, _, min (pl r) (pl q), ?_, by omega, rfl, ?_⟩
  · unfold Ieee.Format.add
    rw [read_finite s r hr, read_finite t q hq]
    rfl
  · rw [Int.add_mul, e1, e2]
theorem add_exact (s t n : Bool) (r q u : Nat) (hr : r < Ieee.double.infRung) (hq : q < Ieee.double.infRung) (hu : u < Ieee.double.infRung) (h0 : 0 < u) (h : svn s (val r) + svn t (val q) = svn n (val u)) :
    Ieee.double.add (Ieee.double.word s r) (Ieee.double.word t q) = some (Ieee.double.word n u) := by
  obtain ⟨T, c, b, h1, h2, h3, h4⟩ := sum_total s t r q hr hq
  rw [h] at h4
  have hv := val_pos h0
  have hc : 0 < c := by rw [h3]; have := pow_pos2 (b + 1074).toNat; omega
  have hT : T ≠ 0 := by
    intro e
    rw [e, Int.zero_mul] at h4
    have := svn_natAbs n (val u)
    rw [← h4] at this
    simp at this
    omega
  have hn : (decide (T < 0)) = n := by
    have hs := svn_neg_iff n (val u) hv
    rw [← h4] at hs
    by_cases e : T < 0
    · rw [decide_eq_true e]
      exact (hs.1 (Int.mul_neg_of_neg_of_pos e hc)).symm
    · rw [decide_eq_false e]
      cases n
      · rfl
      · have h5 := hs.2 rfl
        have h6 : 0 ≤ T * c := Int.mul_nonneg (by omega) (by omega)
        omega
  have ha : T.natAbs * 2 ^ (b + 1074).toNat = val u := by
    have h5 := congrArg Int.natAbs h4
    rw [Int.natAbs_mul, svn_natAbs, h3, Int.natAbs_natCast] at h5
    exact h5
  rw [h1, if_neg hT]
  rw [write_val (decide (T < 0)) T.natAbs b u h2 hu (by omega) ha, hn]
theorem add_cancel (s t : Bool) (r q : Nat) (hr : r < Ieee.double.infRung) (hq : q < Ieee.double.infRung) (h : svn s (val r) + svn t (val q) = 0) :
    Ieee.double.add (Ieee.double.word s r) (Ieee.double.word t q) = some (Ieee.double.word (s && t) 0) := by
  obtain ⟨T, c, b, h1, h2, h3, h4⟩ := sum_total s t r q hr hq
  rw [h] at h4
  have hc : 0 < c := by rw [h3]; have := pow_pos2 (b + 1074).toNat; omega
  have hT : T = 0 := by
    rcases Int.mul_eq_zero.1 h4 with e | e
    · exact e
    · omega
  rw [h1, if_pos hT, hT]
  exact congrArg some (write_zero _ b)
theorem sub_add (x : Nat) (t : Bool) (q : Nat) (hq : q < Ieee.double.infRung) : Ieee.double.sub x (Ieee.double.word t q) = Ieee.double.add x (Ieee.double.word (!t) q) := by
  unfold Ieee.Format.sub Ieee.Format.add
  rw [read_finite t q hq, read_finite (!t) q hq]
  rfl
theorem val_zero : val 0 = 0 := rfl
/-- Adding the zero to a number. -/
theorem add_zero_finite (s : Bool) (r : Nat) (h0 : 0 < r) (h : r < Ieee.double.infRung) : Ieee.double.add (Ieee.double.word s r) 0 = some (Ieee.double.word s r) := by
  have := add_exact s false s r 0 r h (by rw [d_inf]; omega) h h0 (by rw [val_zero]; unfold svn; simp)
  rw [word_false] at this
  exact this
theorem add_zero_zero (s : Bool) : Ieee.double.add (Ieee.double.word s 0) 0 = some 0 := by cases s <;> decide
theorem add_zero_inf (s : Bool) : Ieee.double.add (Ieee.double.word s 9218868437227405312) 0 = some (Ieee.double.word s 9218868437227405312) := by cases s <;> decide
theorem add_nan (s : Bool) (r b : Nat) (h : 9218868437227405312 < r) (h' : r < 9223372036854775808) : Ieee.double.add (Ieee.double.word s r) b = none := by
  have hn := read_nan s r (by rw [d_inf]; exact h) h'
  unfold Ieee.Format.add
  cases hd : Ieee.double.read (Ieee.double.word s r) with
  | nan s t => rfl
  | infinity s => rw [hd] at hn; simp [Ieee.Datum.isNaN] at hn
  | number s m i => rw [hd] at hn; simp [Ieee.Datum.isNaN] at hn
end Go.Proofs.YtdkccihoecpcaaaGreatFmt
