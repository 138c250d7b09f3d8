/- Depths that are no small whole number: great ones, fractions; the law's tests on depths. Conditions: none. -/
import Derived.Test.YtlhndkonhjjcgaaGreatDoorDep
namespace Go.Proofs.YtlhndkonhjjcgaaGreatDoor
open Go
/-- The word of 2 to the 53. -/
def R53 : Nat := 1076 * E52
theorem r53_eq : R53 = 4845873199050653696 := by decide
theorem val_r53 : val R53 = 9007199254740992 * U := by
  have h : ¬ R53 < E52 := by decide
  have e1 : R53 % E52 = 0 := by decide
  have e2 : R53 / E52 - 1 = place + 1 := by decide
  rw [val_high h, e1, e2, U_eq, Nat.pow_succ]
  unfold E52
  generalize 2 ^ place = x
  omega
theorem r53_fin : R53 < Ieee.double.infRung := by rw [d_inf]; decide
/-- A whole number that is great enough, counted down, does not meet zero. -/
theorem dok_nat_none (l : Nat) : ∀ (n r : Nat), l ≤ n → n ≤ 2 * E52 → r < Ieee.double.infRung → val r = n * U → Dok l (Ieee.double.word false r) none := by
  induction l with
  | zero => intro n r _ _ _ _; exact True.intro
  | succ l ih =>
    intro n r hl hn hr hv
    obtain ⟨n, rfl⟩ : ∃ n', n = n' + 1 := ⟨n - 1, by omega⟩
    have h0 : r ≠ 0 := by
      intro e
      rw [e, val_zero] at hv
      have h2 : 0 < (n + 1) * U := Nat.mul_pos (Nat.succ_pos n) U_pos
      rw [← hv] at h2
      exact Nat.lt_irrefl _ h2
    have h1 := eq_zero false r (by rw [d_inf] at hr; omega)
    rw [decide_eq_false h0] at h1
    obtain ⟨u, hu, hvu⟩ := nat_float n (by omega)
    have hsub := sub_same false r ONE u hr one_fin hu (by rw [hv, val_one, Nat.add_mul]; omega) (by rw [hvu, hv, val_one, Nat.add_mul]; omega)
    rw [word_false ONE, ite_self] at hsub
    exact ⟨h1, _, hsub, ih n u (by omega) (by omega) hu hvu⟩
/-- Whatever is at least 2 to the 53 is written as a word that is. -/
theorem write_big (s : Bool) (m : Nat) (p : Int) (hm : 0 < m) (h : 53 ≤ p + (m.log2 : Int)) : ∃ r, R53 ≤ r ∧ r ≤ Ieee.double.infRung ∧ Ieee.double.write (.number s m p) = Ieee.double.word s r := by
  show ∃ r, R53 ≤ r ∧ r ≤ Ieee.double.infRung ∧ Ieee.double.nearest s m p = Ieee.double.word s r
  unfold Ieee.Format.nearest
  rw [if_neg (by omega)]
  refine ⟨_, ?_, Nat.min_le_right _ _, rfl⟩
  simp only [d_fraction, d_least, d_binade]
  refine Nat.le_min.2 ⟨?_, Nat.le_of_lt r53_fin⟩
  have e : max (p + (m.log2 : Int) - ((52 : Nat) : Int)) (-1074) = p + (m.log2 : Int) - 52 := by omega
  rw [e]
  have hk : E52 ≤ Ieee.Toward.even.cut s (m <<< (p - (p + (m.log2 : Int) - 52)).toNat) (p + (m.log2 : Int) - 52 - p).toNat := by
    have h1 := Nat.log2_self_le (Nat.ne_of_gt hm)
    have e52 : E52 = 2 ^ 52 := by decide
    unfold Ieee.Toward.cut
    refine Nat.le_trans ?_ (Nat.le_add_right _ _)
    rw [Nat.shiftLeft_eq, Nat.one_shiftLeft]
    by_cases hL : m.log2 ≤ 52
    · have a1 : (p - (p + (m.log2 : Int) - 52)).toNat = 52 - m.log2 := by omega
      have a2 : (p + (m.log2 : Int) - 52 - p).toNat = 0 := by omega
      rw [a1, a2, Nat.zero_min, Nat.pow_zero, Nat.div_one, e52]
      have := Nat.mul_le_mul_right (2 ^ (52 - m.log2)) h1
      rwa [← Nat.pow_add, show m.log2 + (52 - m.log2) = 52 from by omega] at this
    · have a1 : (p - (p + (m.log2 : Int) - 52)).toNat = 0 := by omega
      have a2 : (p + (m.log2 : Int) - 52 - p).toNat = m.log2 - 52 := by omega
      rw [a1, a2, Nat.pow_zero, Nat.mul_one, Nat.min_eq_left (by omega), Nat.le_div_iff_mul_le (pow_pos2 _), e52, ← Nat.pow_add, show 52 + (m.log2 - 52) = m.log2 from by omega]
      exact h1
  have hz : 1075 ≤ (p + (m.log2 : Int) - 52 - -1074).toNat := by omega
  have h3 : 1075 * E52 ≤ (p + (m.log2 : Int) - 52 - -1074).toNat * E52 := Nat.mul_le_mul_right _ hz
  unfold R53
  omega
theorem log_of_le {m c k : Nat} (hm : 0 < m) (h : 2 ^ k ≤ m * 2 ^ c) : k ≤ m.log2 + c := by
  rw [← log2_mul_pow hm]
  exact (Nat.le_log2 (Nat.ne_of_gt (Nat.mul_pos hm (pow_pos2 c)))).2 h
theorem big_down (r : Nat) (h : R53 < r) (hr : r ≤ Ieee.double.infRung) : ∃ u, R53 ≤ u ∧ u ≤ Ieee.double.infRung ∧ Ieee.double.sub (Ieee.double.word false r) ONE = some (Ieee.double.word false u) := by
  rcases Nat.lt_or_eq_of_le hr with hr | rfl
  · rw [← word_false ONE, sub_add _ false ONE one_fin]
    obtain ⟨T, c, b, h1, h2, h3, h4⟩ := sum_total false (!false) r ONE hr one_fin
    have hv : 9007199254740993 * U ≤ val r := by
      have h5 : val (R53 + 1) ≤ val r := by
        rcases Nat.lt_or_eq_of_le (Nat.succ_le_of_lt h) with e | e
        · exact Nat.le_of_lt (val_mono e)
        · rw [← e]; exact Nat.le_refl _
      have h6 : val (R53 + 1) = 9007199254740994 * U := by
        have hn : ¬ R53 + 1 < E52 := by decide
        have e1 : (R53 + 1) % E52 = 1 := by decide
        have e2 : (R53 + 1) / E52 - 1 = place + 1 := by decide
        rw [val_high hn, e1, e2, U_eq, Nat.pow_succ]
        unfold E52
        generalize 2 ^ place = x
        omega
      have h7 : 9007199254740993 * U ≤ 9007199254740994 * U := Nat.mul_le_mul_right _ (by omega)
      omega
    have hc : 0 < c := by rw [h3]; have := pow_pos2 (b + 1074).toNat; omega
    have hge : ((9007199254740992 * U : Nat) : Int) ≤ T * c := by
      rw [h4, val_one]
      have : 9007199254740993 * U = 9007199254740992 * U + U := by omega
      unfold svn
      simp only [Bool.false_eq_true, if_false, Bool.not_false, if_true]
      omega
    have hT : 0 < T := by
      rcases Int.lt_or_le 0 T with h' | h'
      · exact h'
      · have h8 := Int.mul_nonpos_of_nonpos_of_nonneg h' (Int.le_of_lt hc)
        have h9 : 0 < 9007199254740992 * U := Nat.mul_pos (by decide) U_pos
        omega
    rw [h1, if_neg (by omega), decide_eq_false (show ¬ T < 0 from by omega)]
    have hn : 2 ^ (place + 53) ≤ T.natAbs * 2 ^ (b + 1074).toNat := by
      have e : 2 ^ (place + 53) = 9007199254740992 * U := by
        rw [U_eq, Nat.pow_add, Nat.mul_comm]
      rw [e]
      have h8 : ((T.natAbs * 2 ^ (b + 1074).toNat : Nat) : Int) = T * c := by
        rw [Int.natCast_mul, h3, Int.natAbs_of_nonneg (Int.le_of_lt hT)]
      omega
    have hl := log_of_le (by omega : 0 < T.natAbs) hn
    rw [place_eq] at hl
    obtain ⟨u, hu0, hu1, hu2⟩ := write_big false T.natAbs b (by omega) (by omega)
    exact ⟨u, hu0, hu1, by rw [hu2]⟩
  · exact ⟨Ieee.double.infRung, Nat.le_of_lt r53_fin, Nat.le_refl _, by rw [d_inf]; decide⟩
theorem dok_big (l : Nat) : ∀ r, l ≤ 1000000000 → R53 ≤ r → r ≤ Ieee.double.infRung → Dok l (Ieee.double.word false r) none := by
  induction l with
  | zero => intro r _ _ _; exact True.intro
  | succ l ih =>
    intro r hl h hr
    rcases Nat.lt_or_eq_of_le h with h | rfl
    · obtain ⟨u, hu0, hu1, hsub⟩ := big_down r h hr
      have h1 := eq_zero false r (by rw [d_inf] at hr; exact hr)
      rw [decide_eq_false (show ¬ r = 0 from by omega)] at h1
      exact ⟨h1, _, hsub, ih u (by omega) hu0 hu1⟩
    · exact dok_nat_none (l + 1) 9007199254740992 R53 (by omega) (by unfold E52; omega) r53_fin val_r53
theorem frac_down (r : Nat) (h1 : ONE ≤ r) (h2 : r < R53) (hf : whole r * U ≠ val r) : ∃ u, u < R53 ∧ whole u * U ≠ val u ∧ Ieee.double.sub (Ieee.double.word false r) ONE = some (Ieee.double.word false u) := by
  have hr : r < Ieee.double.infRung := Nat.lt_trans h2 r53_fin
  have hnl : ¬ r < E52 := by
    have : E52 ≤ ONE := by decide
    omega
  have hv := val_high hnl
  have hk : r / E52 - 1 ≤ place := by rw [place_eq]; unfold R53 E52 at *; omega
  have hk2 : r / E52 - 1 ≠ place := by
    intro e
    rw [e, ← U_eq] at hv
    apply hf
    unfold whole
    rw [hv, Nat.mul_div_cancel _ U_pos]
  have hle : U ≤ val r := by
    rw [← val_one]
    rcases Nat.lt_or_eq_of_le h1 with e | e
    · exact Nat.le_of_lt (val_mono e)
    · rw [e]; exact Nat.le_refl _
  obtain ⟨d, hd⟩ : ∃ d, place = d + (r / E52 - 1) := ⟨place - (r / E52 - 1), by omega⟩
  have hU : U = 2 ^ d * 2 ^ (r / E52 - 1) := by rw [U_eq, hd, Nat.pow_add]
  have hm : E52 + r % E52 < 2 * E52 := by have := Nat.mod_lt r (show 0 < E52 by decide); omega
  have hsub : val r - U = (E52 + r % E52 - 2 ^ d) * 2 ^ (r / E52 - 1) := by rw [hv, hU, Nat.sub_mul]
  obtain ⟨u, hu, hvu⟩ := is_float (r / E52 - 1) (E52 + r % E52 - 2 ^ d) (Nat.lt_of_le_of_lt (Nat.sub_le _ _) hm) (by rw [place_eq] at hk; omega)
  rw [← hsub] at hvu
  have hs := sub_same false r ONE u hr one_fin hu (by rw [val_one]; exact hle) (by rw [hvu, val_one])
  rw [word_false ONE, ite_self] at hs
  refine ⟨u, ?_, ?_, hs⟩
  · refine Nat.lt_trans ?_ h2
    rw [← val_lt_iff, hvu]
    have := U_pos
    omega
  · intro e
    apply hf
    have e2 : val r = (whole u + 1) * U := by rw [Nat.add_mul, e, hvu]; omega
    unfold whole at e2 ⊢
    rw [e2, Nat.mul_div_cancel _ U_pos]
theorem dok_frac (l : Nat) : ∀ r, r < R53 → whole r * U ≠ val r → Dok l (Ieee.double.word false r) none := by
  induction l with
  | zero => intro r _ _; exact True.intro
  | succ l ih =>
    intro r h hf
    have h0 : r ≠ 0 := by
      intro e
      subst e
      apply hf
      unfold whole
      rw [val_zero, Nat.zero_div, Nat.zero_mul]
    have hr : r < Ieee.double.infRung := Nat.lt_trans h r53_fin
    have h1 := eq_zero false r (by rw [d_inf] at hr; omega)
    rw [decide_eq_false h0] at h1
    by_cases h2 : ONE ≤ r
    · obtain ⟨u, a1, a2, hsub⟩ := frac_down r h2 h hf
      exact ⟨h1, _, hsub, ih u a1 a2⟩
    · have hsub : ∃ u, 0 < u ∧ u ≤ Ieee.double.infRung ∧ Ieee.double.sub (Ieee.double.word false r) ONE = some (Ieee.double.word true u) := by
        rw [← word_false ONE, sub_add _ false ONE one_fin]
        obtain ⟨T, c, b, h1, h2', h3, h4⟩ := sum_total false (!false) r ONE hr one_fin
        have hc : 0 < c := by rw [h3]; have := pow_pos2 (b + 1074).toNat; omega
        have hneg : T * c < 0 := by
          rw [h4, val_one]
          have h5 := val_mono (show r < ONE from by omega)
          rw [val_one] at h5
          unfold svn
          simp only [Bool.false_eq_true, if_false, Bool.not_false, if_true]
          omega
        have hT : T < 0 := by
          rcases Int.lt_or_le T 0 with h | h
          · exact h
          · have := Int.mul_nonneg h (Int.le_of_lt hc); omega
        rw [h1, if_neg (by omega), decide_eq_true hT]
        obtain ⟨u, hu0, hu1, hu2⟩ := write_pos true T.natAbs b (by omega) h2'
        exact ⟨u, hu0, hu1, by rw [hu2]⟩
      obtain ⟨u, a1, a2, hs⟩ := hsub
      exact ⟨h1, _, hs, dok_neg l u a1 a2⟩
/-! ### The law's tests -/
/-- A depth that is not refused. -/
theorem not_refused {d : Nat} (hd : d < 18446744073709551616) (h : ltF d 0 = false) : ∃ s r, d = Ieee.double.word s r ∧ r ≤ Ieee.double.infRung ∧ (s = true → r = 0) := by
  obtain ⟨s, r, rfl, hr⟩ := word_split d hd
  unfold ltF at h
  rw [Bool.or_eq_false_iff] at h
  have h2 := ne_self s r hr
  rw [h.2] at h2
  have hle : r ≤ 9218868437227405312 := by
    rcases Nat.lt_or_ge 9218868437227405312 r with e | e
    · rw [decide_eq_true e] at h2; cases h2
    · exact e
  refine ⟨s, r, rfl, by rw [d_inf]; exact hle, fun hs => ?_⟩
  have h3 := lt_zero s r hle
  rw [h.1, hs] at h3
  rcases Nat.eq_zero_or_pos r with e | e
  · exact e
  · rw [decide_eq_true e] at h3; cases h3
theorem dpos (d : Nat) (h : ltF d 0 = false) : (FloatKind.f64.format.order d d != some .eq) = false ∧ (FloatKind.f64.format.order d 0 == some .lt) = false := by
  unfold ltF at h
  rw [Bool.or_eq_false_iff] at h
  exact ⟨h.2, h.1⟩
/-- A level against the depth. -/
def geF (a b : Nat) : Bool := FloatKind.f64.format.order a b == some .gt || FloatKind.f64.format.order a b == some .eq
theorem level_exact (s : Bool) (r n l : Nat) (hr : r < Ieee.double.infRung) (hs : s = true → r = 0) (hv : val r = n * U) (hl : l ≤ 2097152) : geF (floatOfInt .f64 (l : Int)) (Ieee.double.word s r) = decide (n ≤ l) := by
  obtain ⟨u, h1, h2, h3⟩ := of_nat l (by unfold E52; omega)
  rw [h2]
  have hr' : r ≤ 9218868437227405312 := by rw [d_inf] at hr; omega
  have hu' : u ≤ 9218868437227405312 := by rw [d_inf] at h1; omega
  have hk : (r ≤ u) ↔ n ≤ l := by
    have e1 := val_lt_iff u r
    rw [h3, hv] at e1
    constructor
    · intro h
      rcases Nat.lt_or_ge l n with e | e
      · have := e1.1 ((Nat.mul_lt_mul_right U_pos).2 e); omega
      · exact e
    · intro h
      rcases Nat.lt_or_ge u r with e | e
      · have := e1.2 e
        have := Nat.mul_le_mul_right U h
        omega
      · exact e
  cases s with
  | false =>
    unfold geF
    rw [word_false, word_false, ge_nat u r hu' hr']
    exact decide_eq_decide.2 hk
  | true =>
    have h0 := hs rfl
    subst h0
    have e := (ord_pair false true u 0 hu' (by omega)).2
    unfold geF
    rw [e.1, e.2, sv_false, sv_true]
    have hn : n ≤ l := hk.1 (Nat.zero_le _)
    rw [decide_eq_true hn]
    by_cases y : 0 < u
    · rw [decide_eq_true (show -((0 : Nat) : Int) < (u : Int) from by omega)]; rfl
    · rw [decide_eq_true (show (u : Int) = -((0 : Nat) : Int) from by omega), Bool.or_true]
theorem level_big (r l : Nat) (h : R53 ≤ r) (hr : r ≤ Ieee.double.infRung) (hl : l ≤ 2097152) : geF (floatOfInt .f64 (l : Int)) (Ieee.double.word false r) = false := by
  obtain ⟨u, h1, h2, h3⟩ := of_nat l (by unfold E52; omega)
  rw [h2]
  have hr' : r ≤ 9218868437227405312 := by rw [d_inf] at hr; omega
  have hu' : u ≤ 9218868437227405312 := by rw [d_inf] at h1; omega
  have hlt : u < r := by
    refine Nat.lt_of_lt_of_le ?_ h
    rw [← val_lt_iff, h3, val_r53]
    exact (Nat.mul_lt_mul_right U_pos).2 (by omega)
  unfold geF
  rw [word_false, word_false, ge_nat u r hu' hr']
  exact decide_eq_false (by omega)
end Go.Proofs.YtlhndkonhjjcgaaGreatDoor
