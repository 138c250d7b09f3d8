/- First facts on the order of floats: whatever is ordered is no NaN, and an int as a float is no NaN. Conditions: none. -/
import Derived.Laws.Cover2
namespace Go.Proofs.YtdklmpgjpnjdmaaGreatDoor
open Go
theorem datum_order_right {a b : Ieee.Datum} {o : Ordering} (h : a.order b = some o) : b.order b = some .eq := by
  cases b with
  | nan s t => cases a <;> simp [Ieee.Datum.order] at h
  | infinity s => simp [Ieee.Datum.order]
  | number s m i => simp [Ieee.Datum.order]
theorem datum_order_left {a b : Ieee.Datum} {o : Ordering} (h : a.order b = some o) : a.order a = some .eq := by
  cases a with
  | nan s t => simp [Ieee.Datum.order] at h
  | infinity s => simp [Ieee.Datum.order]
  | number s m i => simp [Ieee.Datum.order]
theorem order_right {a b : Nat} {o : Ordering} (h : FloatKind.f64.format.order a b = some o) : FloatKind.f64.format.order b b = some .eq := datum_order_right h
theorem order_left {a b : Nat} {o : Ordering} (h : FloatKind.f64.format.order a b = some o) : FloatKind.f64.format.order a a = some .eq := datum_order_left h
theorem read_word_num (neg : Bool) (r : Nat) (h : r ≤ Ieee.double.infRung) : (Ieee.double.read (Ieee.double.word neg r)).isNaN = false := by
  have e1 : Ieee.double.infRung = 9218868437227405312 := by decide
  have e2 : Ieee.double.signWeight = 9223372036854775808 := by decide
  have hm : Ieee.double.word neg r % Ieee.double.signWeight = r := by
    unfold Ieee.Format.word
    rw [e2]
    split <;> omega
  unfold Ieee.Format.read
  simp only [hm]
  split
  · rfl
  · split
    · rfl
    · rw [if_pos (by omega)]; rfl
theorem order_self {a : Nat} (h : (Ieee.double.read a).isNaN = false) : FloatKind.f64.format.order a a = some .eq := by
  show (Ieee.double.read a).order (Ieee.double.read a) = some .eq
  cases hd : Ieee.double.read a with
  | nan s t => rw [hd] at h; simp [Ieee.Datum.isNaN] at h
  | infinity s => simp [Ieee.Datum.order]
  | number s m i => simp [Ieee.Datum.order]
theorem nearest_num (neg : Bool) (m : Nat) (p : Int) : ∃ s r, r ≤ Ieee.double.infRung ∧ Ieee.double.nearest neg m p = Ieee.double.word s r := by
  unfold Ieee.Format.nearest
  split
  · exact ⟨neg, 0, by decide, rfl⟩
  · exact ⟨neg, _, Nat.min_le_right _ _, rfl⟩
theorem order_floatOfInt (n : Int) : FloatKind.f64.format.order (floatOfInt .f64 n) (floatOfInt .f64 n) = some .eq := by
  obtain ⟨s, r, hr, e⟩ := nearest_num (n < 0) n.natAbs 0
  have : floatOfInt .f64 n = Ieee.double.word s r := e
  rw [this]
  exact order_self (read_word_num s r hr)
end Go.Proofs.YtdklmpgjpnjdmaaGreatDoor
