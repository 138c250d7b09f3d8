/- Depths as floats: a whole number counted down, a negative number that never meets zero. Conditions: none. -/
import Derived.Test.YtlhndkonhjjcgaaGreatDoorModfPlain
import Derived.Test.YtlhndkonhjjcgaaGreatDoorFlat
namespace Go.Proofs.YtlhndkonhjjcgaaGreatDoor
open Go
theorem val_one : val ONE = U := by
  have h : ¬ ONE < E52 := by decide
  have e1 : ONE % E52 = 0 := by decide
  have e3 : (E52 : Nat) = 2 ^ 52 := by decide
  have e4 : 52 + (ONE / E52 - 1) = place := by rw [place_eq]; decide
  generalize hp : ONE / E52 - 1 = p at e4
  have hv : val ONE = (E52 + ONE % E52) * 2 ^ p := by rw [← hp]; exact val_high h
  rw [hv, e1, Nat.add_zero, e3, ← Nat.pow_add, e4, U_eq]
theorem one_fin : ONE < Ieee.double.infRung := by rw [d_inf]; decide
theorem nat_float (n : Nat) (h : n ≤ 2 * E52) : ∃ u, u < Ieee.double.infRung ∧ val u = n * U := by
  by_cases e : n < 2 * E52
  · exact is_float place n e (by rw [place_eq]; omega)
  · obtain ⟨u, h1, h2⟩ := is_float (place + 1) E52 (by decide) (by rw [place_eq]; omega)
    refine ⟨u, h1, ?_⟩
    rw [h2, show n = 2 * E52 from by omega, U_eq]
    generalize place = p
    rw [Nat.pow_succ, Nat.mul_comm (2 ^ p) 2, ← Nat.mul_assoc, Nat.mul_comm E52 2]
/-- A whole number, counted down. -/
theorem dok_zero_of (l : Nat) (s : Bool) (r : Nat) (h0 : r = 0) : Dok l (Ieee.double.word s r) (some 0) := by
  have := eq_zero s r (by omega)
  rw [decide_eq_true h0] at this
  cases l <;> exact this
theorem dok_step (l n : Nat) (r : Nat) (hn : n + 1 ≤ 2 * E52) (hr : r < Ieee.double.infRung) (hv : val r = (n + 1) * U) (ih : ∀ u, u < Ieee.double.infRung → val u = n * U → Dok l (Ieee.double.word false u) (some n)) : Dok (l + 1) (Ieee.double.word false r) (some (n + 1)) := by
  have h0 : r ≠ 0 := by
    intro e
    rw [e, val_zero] at hv
    have h2 : 0 < (n + 1) * U := Nat.mul_pos (Nat.succ_pos n) U_pos
    rw [← hv] at h2
    exact Nat.lt_irrefl _ h2
  have h1 := eq_zero false r (by rw [d_inf] at hr; omega)
  rw [decide_eq_false h0] at h1
  obtain ⟨u, hu, hvu⟩ := nat_float n (by omega)
  have hsub := sub_same false r ONE u hr one_fin hu (by rw [hv, val_one, Nat.add_mul]; omega) (by rw [hvu, hv, val_one, Nat.add_mul]; omega)
  rw [word_false ONE] at hsub
  refine ⟨h1, _, hsub, ?_⟩
  rw [ite_self]
  exact ih u hu hvu
theorem dok_nat (l : Nat) : ∀ (n : Nat) (s : Bool) (r : Nat), n ≤ 2 * E52 → (s = true → n = 0) → r < Ieee.double.infRung → val r = n * U → Dok l (Ieee.double.word s r) (some n) := by
  have zero : ∀ l s r, r < Ieee.double.infRung → val r = 0 * U → Dok l (Ieee.double.word s r) (some 0) := fun l s r _ hv => dok_zero_of l s r (val_inj.1 (by rw [hv, Nat.zero_mul, val_zero]))
  induction l with
  | zero =>
    intro n s r _ _ hr hv
    cases n with
    | zero => exact zero 0 s r hr hv
    | succ n => exact True.intro
  | succ l ih =>
    intro n s r hn hs hr hv
    cases n with
    | zero => exact zero _ s r hr hv
    | succ n =>
      cases s with
      | true => exact absurd (hs rfl) (by omega)
      | false => exact dok_step l n r hn hr hv (fun u hu hvu => ih n false u (by omega) (by simp) hu hvu)
/-- Whatever is not zero is written as a word that is not zero. -/
theorem write_pos (s : Bool) (m : Nat) (p : Int) (hm : 0 < m) (hp : -1074 ≤ p) : ∃ r, 0 < r ∧ r ≤ Ieee.double.infRung ∧ Ieee.double.write (.number s m p) = Ieee.double.word s r := by
  show ∃ r, 0 < r ∧ r ≤ Ieee.double.infRung ∧ Ieee.double.nearest s m p = Ieee.double.word s r
  unfold Ieee.Format.nearest
  rw [if_neg (by omega)]
  refine ⟨_, ?_, Nat.min_le_right _ _, rfl⟩
  simp only [d_fraction, d_least, d_binade]
  have hinf : 0 < Ieee.double.infRung := by rw [d_inf]; omega
  refine Nat.lt_min.2 ⟨?_, hinf⟩
  by_cases h : p + (m.log2 : Int) - ((52 : Nat) : Int) ≤ -1074
  · have e : max (p + (m.log2 : Int) - ((52 : Nat) : Int)) (-1074) = -1074 := by omega
    rw [e]
    refine Nat.lt_of_lt_of_le ?_ (Nat.le_add_left _ _)
    have e2 : (-1074 - p).toNat = 0 := by omega
    rw [e2]
    unfold Ieee.Toward.cut
    simp only [Nat.zero_min, Nat.shiftLeft_zero, Nat.div_one]
    refine Nat.lt_of_lt_of_le ?_ (Nat.le_add_right _ _)
    rw [Nat.shiftLeft_eq]
    exact Nat.mul_pos hm (pow_pos2 _)
  · refine Nat.lt_of_lt_of_le ?_ (Nat.le_add_right _ _)
    refine Nat.mul_pos ?_ (by decide)
    omega
theorem neg_down (r : Nat) (h0 : 0 < r) (hr : r ≤ Ieee.double.infRung) : ∃ u, 0 < u ∧ u ≤ Ieee.double.infRung ∧ Ieee.double.sub (Ieee.double.word true r) ONE = some (Ieee.double.word true u) := by
  rcases Nat.lt_or_eq_of_le hr with hr | rfl
  · rw [← word_false ONE, sub_add _ false ONE one_fin]
    obtain ⟨T, c, b, h1, h2, h3, h4⟩ := sum_total true (!false) r ONE hr one_fin
    have hv := val_pos h0
    have hc : 0 < c := by rw [h3]; have := pow_pos2 (b + 1074).toNat; omega
    have hneg : T * c < 0 := by
      rw [h4, val_one]
      have := U_pos
      unfold svn
      simp
      omega
    have hT : T < 0 := by
      rcases Int.lt_or_le T 0 with h | h
      · exact h
      · have := Int.mul_nonneg h (Int.le_of_lt hc); omega
    rw [h1, if_neg (by omega), decide_eq_true hT]
    obtain ⟨u, hu0, hu1, hu2⟩ := write_pos true T.natAbs b (by omega) h2
    exact ⟨u, hu0, hu1, by rw [hu2]⟩
  · exact ⟨Ieee.double.infRung, by rw [d_inf]; omega, Nat.le_refl _, by rw [d_inf]; decide⟩
/-- A negative number never meets zero. -/
theorem dok_neg : ∀ (l r : Nat), 0 < r → r ≤ Ieee.double.infRung → Dok l (Ieee.double.word true r) none
  | 0, _, _, _ => trivial
  | l + 1, r, h0, hr => by
    obtain ⟨u, hu0, hu1, hsub⟩ := neg_down r h0 hr
    have h1 := eq_zero true r (by rw [d_inf] at hr; exact hr)
    rw [decide_eq_false (by omega)] at h1
    exact ⟨h1, _, hsub, dok_neg l u hu0 hu1⟩
theorem dok_minus_one (l : Nat) : Dok l 13830554455654793216 none := by
  have e : (13830554455654793216 : Nat) = Ieee.double.word true ONE := by decide
  rw [e]
  exact dok_neg l ONE (by decide) (by rw [d_inf]; decide)
/-- A small int as a float. -/
theorem of_nat (n : Nat) (h : n ≤ 2 * E52) : ∃ u, u < Ieee.double.infRung ∧ floatOfInt .f64 (n : Int) = Ieee.double.word false u ∧ val u = n * U := by
  obtain ⟨u, h1, h2⟩ := nat_float n h
  refine ⟨u, h1, ?_, h2⟩
  by_cases h0 : n = 0
  · subst h0
    have : u = 0 := val_inj.1 (by rw [h2, Nat.zero_mul, val_zero])
    rw [this]
    decide
  · have e : (decide ((n : Int) < 0)) = false := decide_eq_false (by omega)
    show Ieee.double.write (.number (decide ((n : Int) < 0)) (n : Int).natAbs 0) = _
    rw [e]
    exact write_val false _ 0 u (by omega) h1 (by rw [Int.natAbs_natCast]; omega) (by rw [h2, show ((0 : Int) + 1074).toNat = place from rfl, U_eq, Int.natAbs_natCast])
theorem lt_zero_pos (s : Bool) (r : Nat) (h : r < Ieee.double.infRung) (hs : s = true → r = 0) : ltF (Ieee.double.word s r) 0 = false := by
  unfold ltF
  have hr : r ≤ 9218868437227405312 := by rw [d_inf] at h; omega
  rw [lt_zero s r hr, bne, eq_self s r hr]
  cases s
  · rfl
  · rw [hs rfl]; rfl
end Go.Proofs.YtlhndkonhjjcgaaGreatDoor
