/- Floats as ints: what a float becomes when it is cut to an int and held within int's range. Conditions: none. -/
import Derived.Test.YtnlngodbjkefhaaGreatDoorBits
import Derived.Test.YtnlngodbjkefhaaGreatDoorModfPlain
import Derived.Laws.FloatArith
namespace Go.Proofs.YtnlngodbjkefhaaGreatDoor
open Go
/-- 2 to the 63 as a word. -/
def R63 : Nat := 4890909195324358656
def CM : Nat := 14114281232179134464
theorem cm_word : CM = Ieee.double.word true R63 := by decide
theorem r63_word : R63 = Ieee.double.word false R63 := rfl
theorem val_r63 : val R63 = 9223372036854775808 * U := by
  have h : ¬ R63 < E52 := by decide
  rw [val_high h]
  have e1 : R63 % E52 = 0 := by decide
  have e2 : R63 / E52 - 1 = place + 11 := by decide
  rw [e1, e2, U_eq, Nat.pow_add]
  have e3 : (2 : Nat) ^ 11 = 2048 := by decide
  rw [e3]
  unfold E52
  generalize 2 ^ place = x
  omega
theorem whole_lt {r : Nat} (h : r < R63) : whole r < 9223372036854775808 := by
  unfold whole
  rw [Nat.div_lt_iff_lt_mul U_pos, ← val_r63]
  exact val_mono h
theorem whole_le {r : Nat} (h : r ≤ R63) : whole r ≤ 9223372036854775808 := by
  rcases Nat.lt_or_eq_of_le h with e | rfl
  · exact Nat.le_of_lt (whole_lt e)
  · unfold whole
    rw [val_r63, Nat.mul_div_cancel _ U_pos]
    exact Nat.le_refl _
/-- The number a float is cut to. -/
def cl (s : Bool) (r : Nat) : Int := if s = true then (if r ≤ R63 then -(whole r : Int) else -9223372036854775808) else (if r < R63 then (whole r : Int) else 9223372036854775807)
theorem cl_range (s : Bool) (r : Nat) : -9223372036854775808 ≤ cl s r ∧ cl s r ≤ 9223372036854775807 := by
  unfold cl
  split
  · split
    · have := whole_le (r := r) (by assumption); omega
    · omega
  · split
    · have := whole_lt (r := r) (by assumption); omega
    · omega
theorem toIntVal (s : Bool) (r : Nat) (hr : r < Ieee.double.infRung) (h : -9223372036854775808 ≤ (if s = true then -(whole r : Int) else (whole r : Int)) ∧ (if s = true then -(whole r : Int) else (whole r : Int)) ≤ 9223372036854775807) :
    floatToIntVal .f64 (Ieee.double.word s r) .i64 = some (if s = true then -(whole r : Int) else (whole r : Int)) := by
  have e : (FloatKind.f64.decode (Ieee.double.word s r)).toInt .zero = some (if s = true then -(whole r : Int) else (whole r : Int)) := by
    show (Ieee.double.read (Ieee.double.word s r)).toInt .zero = _
    rw [read_finite s r hr]
    show some (Ieee.signed s (Ieee.Toward.zero.cut s (mg r <<< (pl r).toNat) (-(pl r)).toNat) 0) = _
    rw [cut_whole]
    unfold Ieee.signed
    rw [Nat.shiftLeft_zero]
  unfold floatToIntVal
  rw [e]
  have h1 : IntKind.i64.min = -9223372036854775808 := by decide
  have h2 : IntKind.i64.max = 9223372036854775807 := by decide
  show (if IntKind.i64.min ≤ _ ∧ _ ≤ IntKind.i64.max then some _ else none) = _
  rw [h1, h2, if_pos h]
/-- The tests against the bounds. -/
theorem bounds_tests (s : Bool) (r : Nat) (h : r ≤ 9218868437227405312) :
    (FloatKind.f64.format.order CM (Ieee.double.word s r) == some .lt || FloatKind.f64.format.order CM (Ieee.double.word s r) == some .eq) = decide (s = false ∨ r ≤ R63) ∧
    (FloatKind.f64.format.order (Ieee.double.word s r) R63 == some .lt) = decide (s = true ∨ r < R63) ∧
    (FloatKind.f64.format.order (Ieee.double.word s r) 0 == some .gt) = decide (s = false ∧ 0 < r) ∧
    (FloatKind.f64.format.order (Ieee.double.word s r) R63 == some .gt || FloatKind.f64.format.order (Ieee.double.word s r) R63 == some .eq) = decide (s = false ∧ R63 ≤ r) ∧
    (FloatKind.f64.format.order (Ieee.double.word s r) CM == some .lt) = decide (s = true ∧ R63 < r) := by
  have hR : R63 ≤ 9218868437227405312 := by decide
  have hpos : 0 < R63 := by decide
  obtain ⟨a1, a2, a3⟩ := ord_pair true s R63 r hR h
  obtain ⟨b1, b2, b3⟩ := ord_pair s false r R63 h hR
  obtain ⟨c1, c2, c3⟩ := ord_pair s false r 0 h (by omega)
  obtain ⟨d1, d2, d3⟩ := ord_pair s true r R63 h hR
  rw [← cm_word] at a1 a2 a3 d1 d2 d3
  rw [← r63_word] at b1 b2 b3
  rw [word_false] at c1 c2 c3
  rw [a1, a3, b1, b2, b3, c2, d1]
  generalize R63 = q at *
  have ob : ∀ p q : Prop, ∀ [Decidable p] [Decidable q], (decide p || decide q) = decide (p ∨ q) := fun p q _ _ => by rw [Bool.eq_iff_iff]; simp
  rw [ob, ob]
  cases s
  · simp only [sv_false, sv_true]
    refine ⟨?_, ?_, ?_, ?_, ?_⟩ <;> apply decide_eq_decide.2
    · exact ⟨fun _ => Or.inl trivial, fun _ => by omega⟩
    · exact ⟨fun h => Or.inr (by omega), fun h => by rcases h with h | h; cases h; omega⟩
    · exact ⟨fun h => ⟨trivial, by omega⟩, fun h => by have := h.2; omega⟩
    · exact ⟨fun h => ⟨trivial, by omega⟩, fun h => by have := h.2; omega⟩
    · exact ⟨fun h => by omega, fun h => by cases h.1⟩
  · simp only [sv_false, sv_true]
    refine ⟨?_, ?_, ?_, ?_, ?_⟩ <;> apply decide_eq_decide.2
    · exact ⟨fun h => Or.inr (by omega), fun h => by rcases h with h | h; cases h; omega⟩
    · exact ⟨fun _ => Or.inl trivial, fun _ => by omega⟩
    · exact ⟨fun h => by omega, fun h => by cases h.1⟩
    · exact ⟨fun h => by omega, fun h => by cases h.1⟩
    · exact ⟨fun h => ⟨trivial, by omega⟩, fun h => by have := h.2; omega⟩
end Go.Proofs.YtnlngodbjkefhaaGreatDoor
