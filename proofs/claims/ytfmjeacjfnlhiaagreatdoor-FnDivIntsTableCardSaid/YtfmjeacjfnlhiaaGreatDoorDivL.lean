/- Quotients of ints against quotients of floats: the law walked. Conditions: none. -/
import Derived.Test.YtfmjeacjfnlhiaaGreatDoorDiv
namespace Go.Proofs.YtfmjeacjfnlhiaaGreatDoor
open Go.RowKit Go
theorem zero_float : floatOfInt .f64 0 = 0 := by decide
/-- The facts on a quotient of two ints as floats, the second not zero. -/
theorem div_facts (l r : Int) (hl : -9223372036854775808 ≤ l ∧ l ≤ 9223372036854775807) (hr : -9223372036854775808 ≤ r ∧ r ≤ 9223372036854775807) (h0 : r ≠ 0) :
    ∃ y, Ieee.double.div (floatOfInt .f64 l) (floatOfInt .f64 r) = some y ∧ (FloatKind.f64.format.order y y == some .eq) = true ∧ (FloatKind.f64.format.order (floatOfInt .f64 r) 0 == some .eq) = false := by
  obtain ⟨u, h1, h2, _⟩ := of_int l (by omega)
  obtain ⟨q, h4, h5, h6⟩ := of_int r (by omega)
  have hq : 0 < q := by
    rcases Nat.eq_zero_or_pos q with e | e
    · exact absurd (h6.1 e) h0
    · exact e
  obtain ⟨z, hz, hd⟩ := div_some (decide (l < 0)) (decide (r < 0)) u q h1 h4 hq
  rw [d_inf] at hz h4
  refine ⟨_, by rw [h2, h5]; exact hd, eq_self _ z hz, ?_⟩
  rw [h5, eq_zero _ q (by omega)]
  exact decide_eq_false (by omega)
/-- An exact quotient of small ints is the float of the quotient. -/
theorem div_exact_int (l r : Int) (hl : l.natAbs ≤ 9007199254740992) (hr : r.natAbs ≤ 9007199254740992) (h0 : r ≠ 0) (hm : l.tmod r = 0) (y : Nat) (hy : Ieee.double.div (floatOfInt .f64 l) (floatOfInt .f64 r) = some y) :
    (FloatKind.f64.format.order (floatOfInt .f64 (l.tdiv r)) y == some .eq) = true := by
  have hE : 2 * E52 = 9007199254740992 := by decide
  obtain ⟨f1, f2, f3, f4, f5⟩ := tdiv_facts l r
  have hle : l.natAbs / r.natAbs ≤ l.natAbs := Nat.div_le_self _ _
  have hmod := (tmod_zero_iff l r).1 hm
  have hmul : l.natAbs = (l.tdiv r).natAbs * r.natAbs := by
    rw [f1]
    exact (Nat.div_mul_cancel (Nat.dvd_of_mod_eq_zero hmod)).symm
  obtain ⟨ur, b1, b2, b3⟩ := of_small r (by omega)
  have hrp : 0 < r.natAbs := by omega
  have hU : 0 < U0 := pow_pos2 _
  have hurp : 0 < ur := by
    rcases Nat.eq_zero_or_pos ur with e | e
    · rw [e, val_zero] at b3
      have := Nat.mul_pos hrp hU
      omega
    · exact e
  by_cases hl0 : l = 0
  · subst hl0
    have e0 : (0 : Int).tdiv r = 0 := by simp
    rw [e0, zero_float]
    rw [zero_float, b2] at hy
    have := div_zero_left false (decide (r < 0)) ur b1 hurp
    rw [word_false] at this
    rw [this] at hy
    cases hy
    cases (false ^^ decide (r < 0)) <;> decide
  · obtain ⟨ul, a1, a2, a3⟩ := of_small l (by omega)
    obtain ⟨ut, c1, c2, c3⟩ := of_small (l.tdiv r) (by omega)
    have htp : 0 < (l.tdiv r).natAbs := by
      rcases Nat.eq_zero_or_pos (l.tdiv r).natAbs with e | e
      · rw [e, Nat.zero_mul] at hmul; omega
      · exact e
    have hulp : 0 < ul := by
      rcases Nat.eq_zero_or_pos ul with e | e
      · rw [e, val_zero] at a3
        have := Nat.mul_pos (show 0 < l.natAbs by omega) hU
        omega
      · exact e
    have hd := div_exact (decide (l < 0)) (decide (r < 0)) ul ur ut (l.tdiv r).natAbs a1 b1 c1 hurp hulp htp (by omega) (by rw [a3, b3, ← Nat.mul_assoc, ← hmul]) c3
    rw [a2, b2, hd] at hy
    cases hy
    have hs : (decide (l < 0) ^^ decide (r < 0)) = decide (l.tdiv r < 0) := by
      by_cases x : l < 0 <;> by_cases z : r < 0
      · have := f5 (by omega) (by omega)
        rw [decide_eq_true x, decide_eq_true z, decide_eq_false (by omega)]; rfl
      · have := f3 (by omega) (by omega)
        rw [decide_eq_true x, decide_eq_false z, decide_eq_true (by omega)]; rfl
      · have := f4 (by omega) (by omega)
        rw [decide_eq_false x, decide_eq_true z, decide_eq_true (by omega)]; rfl
      · have := f2 (by omega) (by omega)
        rw [decide_eq_false x, decide_eq_false z, decide_eq_false (by omega)]; rfl
    rw [hs, c2]
    rw [d_inf] at c1
    exact eq_self _ ut (by omega)
theorem below_box2 {w w1 w2 : World} {o1 o2 : Obj} (hb : Below w.heap.size w w1) (hb2 : Below (w1.alloc o1).heap.size (w1.alloc o1) w2) : Below w.heap.size w (w2.alloc o2) := by
  have h1 := hb.size
  have h2 := hb2.size
  have e : (w1.alloc o1).heap.size = w1.heap.size + 1 := by simp
  exact ((hb.alloc h1 _).trans (hb2.mono (by omega))).alloc (by omega) _
end Go.Proofs.YtfmjeacjfnlhiaaGreatDoor
