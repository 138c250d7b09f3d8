/- The table of scalars, through Marshal: the table's texts, the law's table joined, the law walked. Conditions: the tables lie as the row lists them. -/
import Derived.Test.YtdkccihoecpcaaaGreatFmtTextP
import Derived.Test.YtdkccihoecpcaaaGreatFmtFtx
import Derived.Test.YtdkccihoecpcaaaGreatFmtMz
import Derived.Test.YtdkccihoecpcaaaGreatFmtIntT
import Derived.Test.YtdkccihoecpcaaaGreatFmtFpB
import Derived.Test.YtdkccihoecpcaaaGreatFmtP10
namespace Go.Proofs.YtdkccihoecpcaaaGreatFmt
open Go
theorem tx_max_false : ftE false 9218868437227405311 = [49, 46, 55, 57, 55, 54, 57, 51, 49, 51, 52, 56, 54, 50, 51, 49, 53, 55, 101, 43, 51, 48, 56] := by decide +kernel
theorem tx_max_true : ftE true 9218868437227405311 = [45, 49, 46, 55, 57, 55, 54, 57, 51, 49, 51, 52, 56, 54, 50, 51, 49, 53, 55, 101, 43, 51, 48, 56] := by decide +kernel
theorem tx_e21_false : ftE false 4921056587992461136 = [49, 101, 43, 50, 49] := by decide +kernel
theorem tx_e21_true : ftE true 4921056587992461136 = [45, 49, 101, 43, 50, 49] := by decide +kernel
theorem tx_em7_false : ftE false 4502148214488346440 = [49, 101, 45, 48, 55] := by decide +kernel
theorem tx_em7_true : ftE true 4502148214488346440 = [45, 49, 101, 45, 48, 55] := by decide +kernel
theorem tx_em10_false : ftE false 4459862875403570764 = [49, 46, 53, 101, 45, 49, 48] := by decide +kernel
theorem tx_half_false : ftF false 4602678819172646912 = [48, 46, 53] := by decide +kernel
theorem fp_half : -30 ≤ fP 4602678819172646912 ∧ fP 4602678819172646912 ≤ 30 := by decide +kernel
theorem tx_two_false : ftF false 4612811918334230528 = [50, 46, 53] := by decide +kernel
theorem tx_two_true : ftF true 4612811918334230528 = [45, 50, 46, 53] := by decide +kernel
theorem fp_two : -30 ≤ fP 4612811918334230528 ∧ fP 4612811918334230528 ≤ 30 := by decide +kernel
theorem tx_em6_false : ftF false 4517329193108106637 = [48, 46, 48, 48, 48, 48, 48, 49] := by decide +kernel
theorem fp_em6 : -30 ≤ fP 4517329193108106637 ∧ fP 4517329193108106637 ≤ 30 := by decide +kernel
end Go.Proofs.YtdkccihoecpcaaaGreatFmt
namespace Go.Proofs.YtdkccihoecpcaaaGreatFmt
open Go.RowKit Go
theorem sv_eqc (s t : Bool) (r q : Nat) (h0 : 0 < q) : (sv s r = sv t q) ↔ (s = t ∧ r = q) := by
  unfold sv
  cases s <;> cases t <;> simp <;> omega
theorem sv_ge (s : Bool) (r q : Nat) (h0 : 0 < q) : (decide (sv false q < sv s r) || decide (sv s r = sv false q)) = decide (s = false ∧ q ≤ r) := by
  rw [Bool.eq_iff_iff]
  unfold sv
  cases s <;> simp <;> omega
theorem sv_le (s : Bool) (r q : Nat) (h0 : 0 < q) : (decide (sv s r < sv true q) || decide (sv s r = sv true q)) = decide (s = true ∧ q ≤ r) := by
  rw [Bool.eq_iff_iff]
  unfold sv
  cases s <;> simp <;> omega
theorem sv_gtn (s : Bool) (r q : Nat) (h0 : 0 < q) : (sv true q < sv s r) ↔ (s = false ∨ r < q) := by
  unfold sv
  cases s <;> simp <;> omega
theorem sv_ltp (s : Bool) (r q : Nat) (h0 : 0 < q) : (sv s r < sv false q) ↔ (s = true ∨ r < q) := by
  unfold sv
  cases s <;> simp <;> omega
theorem ord_eqc (s t : Bool) (r q : Nat) (hr : r ≤ 9218868437227405312) (hq : q ≤ 9218868437227405312) (h0 : 0 < q) (c : Nat) (hc : Ieee.double.word t q = c) : (FloatKind.f64.format.order (Ieee.double.word s r) c == some .eq) = decide (s = t ∧ r = q) := by
  subst hc
  rw [(ord_pair s t r q hr hq).2.2]
  exact decide_eq_decide.2 (sv_eqc s t r q h0)
theorem ord_ge (s : Bool) (r q : Nat) (hr : r ≤ 9218868437227405312) (hq : q ≤ 9218868437227405312) (h0 : 0 < q) : (FloatKind.f64.format.order (Ieee.double.word s r) q == some .gt || FloatKind.f64.format.order (Ieee.double.word s r) q == some .eq) = decide (s = false ∧ q ≤ r) := by
  obtain ⟨_, b, c⟩ := ord_pair s false r q hr hq
  rw [word_false] at b c
  rw [b, c]
  exact sv_ge s r q h0
theorem ord_le (s : Bool) (r q : Nat) (hr : r ≤ 9218868437227405312) (hq : q ≤ 9218868437227405312) (h0 : 0 < q) (c : Nat) (hc : Ieee.double.word true q = c) : (FloatKind.f64.format.order (Ieee.double.word s r) c == some .lt || FloatKind.f64.format.order (Ieee.double.word s r) c == some .eq) = decide (s = true ∧ q ≤ r) := by
  subst hc
  obtain ⟨a, _, d⟩ := ord_pair s true r q hr hq
  rw [a, d]
  exact sv_le s r q h0
theorem ord_gtn (s : Bool) (r q : Nat) (hr : r ≤ 9218868437227405312) (hq : q ≤ 9218868437227405312) (h0 : 0 < q) (c : Nat) (hc : Ieee.double.word true q = c) : (FloatKind.f64.format.order (Ieee.double.word s r) c == some .gt) = decide (s = false ∨ r < q) := by
  subst hc
  rw [(ord_pair s true r q hr hq).2.1]
  exact decide_eq_decide.2 (sv_gtn s r q h0)
theorem ord_ltp (s : Bool) (r q : Nat) (hr : r ≤ 9218868437227405312) (hq : q ≤ 9218868437227405312) (h0 : 0 < q) : (FloatKind.f64.format.order (Ieee.double.word s r) q == some .lt) = decide (s = true ∨ r < q) := by
  have h := (ord_pair s false r q hr hq).1
  rw [word_false] at h
  rw [h]
  exact decide_eq_decide.2 (sv_ltp s r q h0)
/-- A float cut to an int. -/
theorem toIntW (s : Bool) (r : Nat) (hr : r < Ieee.double.infRung) (h : whole r < 9223372036854775808) :
    floatToIntVal .f64 (Ieee.double.word s r) .i64 = some (if s = true then -(whole r : Int) else (whole r : Int)) := by
  have e : (FloatKind.f64.decode (Ieee.double.word s r)).toInt .zero = some (if s = true then -(whole r : Int) else (whole r : Int)) := by
    show (Ieee.double.read (Ieee.double.word s r)).toInt .zero = _
    rw [read_finite s r hr]
    show some (Ieee.signed s (Ieee.Toward.zero.cut s (mg r <<< (pl r).toNat) (-(pl r)).toNat) 0) = _
    rw [cut_whole]
    unfold Ieee.signed
    rw [Nat.shiftLeft_zero]
  unfold floatToIntVal
  rw [e]
  have h1 : IntKind.i64.min = -9223372036854775808 := by decide
  have h2 : IntKind.i64.max = 9223372036854775807 := by decide
  show (if IntKind.i64.min ≤ _ ∧ _ ≤ IntKind.i64.max then some _ else none) = _
  rw [h1, h2, if_pos (by cases s <;> simp <;> omega)]
theorem run_cv64 (s : Bool) (r : Nat) (hr : r < Ieee.double.infRung) (h : whole r < 9223372036854775808) (w : World) :
    (convert 22 2 (.float .f64 (Ieee.double.word s r))).run Tryz.prog w = .ok (.int .i64 (if s = true then -(whole r : Int) else (whole r : Int))) w :=
  run_convert_float_int w 22 2 .f64 .i64 _ _ (by kernel_rfl) Tryz.underlying2 (toIntW s r hr h)
/-- A small int as a float. -/
theorem fi_small (s : Bool) (n : Nat) (h : n < 2 * E52) (h0 : 0 < n) : ∃ u, u < Ieee.double.infRung ∧ floatOfInt .f64 (if s = true then -(n : Int) else (n : Int)) = Ieee.double.word s u ∧ val u = n * U := by
  obtain ⟨u, h1, h2⟩ : ∃ u, u < Ieee.double.infRung ∧ val u = n * 2 ^ (0 + 1074 : Int).toNat := is_float _ _ h (by omega)
  have h3 : val u = n * U := by
    have e : (0 + 1074 : Int).toNat = place := by decide
    rw [e] at h2
    rw [h2, U_eq]
  refine ⟨u, h1, ?_, h3⟩
  show Ieee.double.nearest (decide ((if s = true then -(n : Int) else (n : Int)) < 0)) (if s = true then -(n : Int) else (n : Int)).natAbs 0 = _
  have e1 : decide ((if s = true then -(n : Int) else (n : Int)) < 0) = s := by cases s <;> simp <;> omega
  have e2 : (if s = true then -(n : Int) else (n : Int)).natAbs = n := by cases s <;> simp
  rw [e1, e2]
  exact write_val s n 0 u (by omega) h1 h0 h2.symm
theorem val_one : val 4607182418800017408 = 1 * U := by
  have h := val_pw 0
  have e : pw (0 + 1) = 4607182418800017408 := by decide
  rw [e] at h
  rw [h, Nat.pow_zero]
theorem val_53 : val 4845873199050653696 = 9007199254740992 * U := by
  have h := val_pw 53
  have e : pw (53 + 1) = 4845873199050653696 := by decide
  have e2 : (2 : Nat) ^ 53 = 9007199254740992 := by decide
  rw [e, e2] at h
  exact h
theorem whole_53 {r : Nat} (h : r < 4845873199050653696) : whole r < 9007199254740992 := by
  unfold whole
  rw [Nat.div_lt_iff_lt_mul U_pos, ← val_53]
  exact val_mono h
/-- The text of a whole float. -/
theorem marT_whole (s : Bool) (r : Nat) (h0 : 0 < whole r) (h : r < 4845873199050653696) (hv : val r = whole r * U) : marT s r = Lib.itoa (if s = true then -(whole r : Int) else (whole r : Int)) := by
  have h1 : 4607182418800017408 ≤ r := by
    rcases Nat.lt_or_ge r 4607182418800017408 with e | e
    · have := val_mono e
      rw [val_one] at this
      have h2 := Nat.mul_le_mul_right U (show 1 ≤ whole r from h0)
      omega
    · exact e
  unfold marT
  rw [if_neg (by omega), if_neg (by omega)]
  unfold mfT
  rw [if_pos (Or.inr (by omega)), ftF_whole s r (whole r) h0 (whole_53 h) hv]
  unfold Lib.itoa sgn
  cases s
  · simp
  · have hneg : (if true = true then -(whole r : Int) else (whole r : Int)) < 0 := by simp; omega
    rw [if_pos hneg]
    simp
theorem mar_hi (s : Bool) (r : Nat) (h : 9218868437227405311 ≤ r) (h2 : r ≤ 9218868437227405312) : marT s r = clE (ftE s 9218868437227405311) := by
  unfold marT
  rw [if_neg (by omega)]
  by_cases e : r = 9218868437227405312
  · rw [if_pos e]
  · rw [if_neg e]
    have : r = 9218868437227405311 := by omega
    subst this
    unfold mfT
    rw [if_neg (by omega)]
theorem mar_e (s : Bool) (r : Nat) (h : r ≤ 9218868437227405311) (hf : ¬ (r = 0 ∨ (4517329193108106637 ≤ r ∧ r < 4921056587992461136))) : marT s r = clE (ftE s r) := by
  unfold marT mfT
  rw [if_neg (by omega), if_neg (by omega), if_neg hf]
theorem mar_f (s : Bool) (r : Nat) (h : r ≤ 9218868437227405311) (hf : r = 0 ∨ (4517329193108106637 ≤ r ∧ r < 4921056587992461136)) : marT s r = ftF s r := by
  unfold marT mfT
  rw [if_neg (by omega), if_neg (by omega), if_pos hf]
theorem mt_max_false (r : Nat) (h : 9218868437227405311 ≤ r) (h2 : r ≤ 9218868437227405312) : marT false r = [49, 46, 55, 57, 55, 54, 57, 51, 49, 51, 52, 56, 54, 50, 51, 49, 53, 55, 101, 43, 51, 48, 56] := by
  rw [mar_hi _ _ h h2, tx_max_false]; decide +kernel
theorem mt_max_true (r : Nat) (h : 9218868437227405311 ≤ r) (h2 : r ≤ 9218868437227405312) : marT true r = [45, 49, 46, 55, 57, 55, 54, 57, 51, 49, 51, 52, 56, 54, 50, 51, 49, 53, 55, 101, 43, 51, 48, 56] := by
  rw [mar_hi _ _ h h2, tx_max_true]; decide +kernel
theorem mt_e21_false : marT false 4921056587992461136 = [49, 101, 43, 50, 49] := by rw [mar_e _ _ (by omega) (by omega), tx_e21_false]; decide +kernel
theorem mt_e21_true : marT true 4921056587992461136 = [45, 49, 101, 43, 50, 49] := by rw [mar_e _ _ (by omega) (by omega), tx_e21_true]; decide +kernel
theorem mt_em7_false : marT false 4502148214488346440 = [49, 101, 45, 55] := by rw [mar_e _ _ (by omega) (by omega), tx_em7_false]; decide +kernel
theorem mt_em7_true : marT true 4502148214488346440 = [45, 49, 101, 45, 55] := by rw [mar_e _ _ (by omega) (by omega), tx_em7_true]; decide +kernel
theorem mt_em10 : marT false 4459862875403570764 = [49, 46, 53, 101, 45, 49, 48] := by rw [mar_e _ _ (by omega) (by omega), tx_em10_false]; decide +kernel
theorem mt_half : marT false 4602678819172646912 = [48, 46, 53] := by rw [mar_f _ _ (by omega) (by omega), tx_half_false]
theorem mt_two : marT true 4612811918334230528 = [45, 50, 46, 53] := by rw [mar_f _ _ (by omega) (by omega), tx_two_true]
theorem mt_em6 : marT false 4517329193108106637 = [48, 46, 48, 48, 48, 48, 48, 49] := by rw [mar_f _ _ (by omega) (by omega), tx_em6_false]
theorem mt_zero (s : Bool) : marT s 0 = sgn s ++ [48] := by
  rw [mar_f _ _ (by omega) (by omega)]
  unfold ftF
  rw [if_pos rfl]
/-- The law's table agrees with the text that Marshal gives. -/
theorem ftab (s : Bool) (r : Nat) (hr : r < 9223372036854775808) (w : World) : Calls Tryz.prog 21 #[.float .f64 (Ieee.double.word s r)] w (FTP (marT s r) w) := by
  have a0 := ne_self s r hr
  by_cases h0 : 9218868437227405312 < r
  · rw [decide_eq_true h0] at a0
    have e : marT s r = [110, 117, 108, 108] := by unfold marT; rw [if_pos h0]
    rw [e]
    exact ft_n _ a0 w
  rw [decide_eq_false h0] at a0
  have hi : r ≤ 9218868437227405312 := by omega
  have a1 := ord_ge s r 9218868437227405311 hi (by omega) (by omega)
  have a2 := ord_le s r 9218868437227405311 hi (by omega) (by omega) 18442240474082181119 (by decide)
  by_cases h1 : 9218868437227405311 ≤ r
  · cases s
    · rw [decide_eq_true ⟨rfl, h1⟩] at a1
      rw [mt_max_false r h1 hi]
      exact ft_g _ a0 a1 w
    · rw [decide_eq_false (by simp)] at a1
      rw [decide_eq_true ⟨rfl, h1⟩] at a2
      rw [mt_max_true r h1 hi]
      exact ft_l _ a0 a1 a2 w
  rw [decide_eq_false (fun x => h1 x.2)] at a1 a2
  have a3 := eq_zero s r hi
  by_cases hz : r = 0
  · subst hz
    rw [mt_zero]
    cases s
    · exact ft_z0 w
    · exact ft_z1 w
  rw [decide_eq_false hz] at a3
  have b1 := ord_eqc s false r 4921056587992461136 hi (by omega) (by omega) 4921056587992461136 (by decide)
  by_cases k1 : s = false ∧ r = 4921056587992461136
  · rw [decide_eq_true k1] at b1
    obtain ⟨rfl, rfl⟩ := k1
    rw [mt_e21_false]
    exact ft_e1 _ a0 a1 a2 a3 b1 w
  rw [decide_eq_false k1] at b1
  have b2 := ord_eqc s true r 4921056587992461136 hi (by omega) (by omega) 14144428624847236944 (by decide)
  by_cases k2 : s = true ∧ r = 4921056587992461136
  · rw [decide_eq_true k2] at b2
    obtain ⟨rfl, rfl⟩ := k2
    rw [mt_e21_true]
    exact ft_e2 _ a0 a1 a2 a3 b1 b2 w
  rw [decide_eq_false k2] at b2
  have b3 := ord_eqc s false r 4502148214488346440 hi (by omega) (by omega) 4502148214488346440 (by decide)
  by_cases k3 : s = false ∧ r = 4502148214488346440
  · rw [decide_eq_true k3] at b3
    obtain ⟨rfl, rfl⟩ := k3
    rw [mt_em7_false]
    exact ft_e3 _ a0 a1 a2 a3 b1 b2 b3 w
  rw [decide_eq_false k3] at b3
  have b4 := ord_eqc s true r 4502148214488346440 hi (by omega) (by omega) 13725520251343122248 (by decide)
  by_cases k4 : s = true ∧ r = 4502148214488346440
  · rw [decide_eq_true k4] at b4
    obtain ⟨rfl, rfl⟩ := k4
    rw [mt_em7_true]
    exact ft_e4 _ a0 a1 a2 a3 b1 b2 b3 b4 w
  rw [decide_eq_false k4] at b4
  have b5 := ord_eqc s false r 4459862875403570764 hi (by omega) (by omega) 4459862875403570764 (by decide)
  by_cases k5 : s = false ∧ r = 4459862875403570764
  · rw [decide_eq_true k5] at b5
    obtain ⟨rfl, rfl⟩ := k5
    rw [mt_em10]
    exact ft_e5 _ a0 a1 a2 a3 b1 b2 b3 b4 b5 w
  rw [decide_eq_false k5] at b5
  have b6 := ord_eqc s false r 4602678819172646912 hi (by omega) (by omega) 4602678819172646912 (by decide)
  by_cases k6 : s = false ∧ r = 4602678819172646912
  · rw [decide_eq_true k6] at b6
    obtain ⟨rfl, rfl⟩ := k6
    rw [mt_half]
    exact ft_e6 _ a0 a1 a2 a3 b1 b2 b3 b4 b5 b6 w
  rw [decide_eq_false k6] at b6
  have b7 := ord_eqc s true r 4612811918334230528 hi (by omega) (by omega) 13836183955189006336 (by decide)
  by_cases k7 : s = true ∧ r = 4612811918334230528
  · rw [decide_eq_true k7] at b7
    obtain ⟨rfl, rfl⟩ := k7
    rw [mt_two]
    exact ft_e7 _ a0 a1 a2 a3 b1 b2 b3 b4 b5 b6 b7 w
  rw [decide_eq_false k7] at b7
  have b8 := ord_eqc s false r 4517329193108106637 hi (by omega) (by omega) 4517329193108106637 (by decide)
  by_cases k8 : s = false ∧ r = 4517329193108106637
  · rw [decide_eq_true k8] at b8
    obtain ⟨rfl, rfl⟩ := k8
    rw [mt_em6]
    exact ft_e8 _ a0 a1 a2 a3 b1 b2 b3 b4 b5 b6 b7 b8 w
  rw [decide_eq_false k8] at b8
  clear k1 k2 k3 k4 k5 k6 k7 k8
  have c1 := ord_gtn s r 4845873199050653696 hi (by omega) (by omega) 14069245235905429504 (by decide)
  have c2 := ord_ltp s r 4845873199050653696 hi (by omega) (by omega)
  by_cases hb : r < 4845873199050653696
  · rw [decide_eq_true (Or.inr hb)] at c1 c2
    have hrf : r < Ieee.double.infRung := by rw [d_inf]; omega
    have hw := whole_53 hb
    have hcv := run_cv64 s r hrf (by omega)
    have hint : -9223372036854775808 ≤ (if s = true then -(whole r : Int) else (whole r : Int)) ∧ (if s = true then -(whole r : Int) else (whole r : Int)) ≤ 9223372036854775807 := by cases s <;> simp <;> omega
    by_cases hw0 : whole r = 0
    · have e0 : (if s = true then -(whole r : Int) else (whole r : Int)) = 0 := by rw [hw0]; cases s <;> rfl
      rw [e0] at hcv
      have he : (FloatKind.f64.format.order (floatOfInt .f64 0) (Ieee.double.word s r) == some .eq) = false := by
        have e1 : floatOfInt .f64 0 = Ieee.double.word false 0 := by decide
        rw [e1, (ord_pair false s 0 r (by omega) hi).2.2]
        apply decide_eq_false
        cases s <;> simp only [sv_false, sv_true] <;> omega
      exact ft_no _ _ 0 a0 a1 a2 a3 b1 b2 b3 b4 b5 b6 b7 b8 c1 c2 hcv he w
    · obtain ⟨u, hu1, hu2, hu3⟩ := fi_small s (whole r) (by omega) (by omega)
      have hue := (ord_pair s s u r (by rw [d_inf] at hu1; omega) hi).2.2
      rw [← hu2] at hue
      by_cases hur : u = r
      · subst hur
        rw [decide_eq_true rfl] at hue
        rw [marT_whole s u (by omega) hb hu3]
        exact ft_yes _ _ hint a0 a1 a2 a3 b1 b2 b3 b4 b5 b6 b7 b8 c1 c2 hcv hue w
      · rw [decide_eq_false (by cases s <;> simp only [sv_false, sv_true] <;> omega)] at hue
        exact ft_no _ _ _ a0 a1 a2 a3 b1 b2 b3 b4 b5 b6 b7 b8 c1 c2 hcv hue w
  · cases s
    · rw [decide_eq_true (Or.inl rfl)] at c1
      rw [decide_eq_false (by simp; omega)] at c2
      exact ft_hj _ _ a0 a1 a2 a3 b1 b2 b3 b4 b5 b6 b7 b8 c1 c2 w
    · rw [decide_eq_false (by simp; omega)] at c1
      exact ft_hi _ _ a0 a1 a2 a3 b1 b2 b3 b4 b5 b6 b7 b8 c1 w
end Go.Proofs.YtdkccihoecpcaaaGreatFmt
namespace Go.Proofs.YtdkccihoecpcaaaGreatFmt
open Go
theorem sgn_len (s : Bool) : (sgn s).length ≤ 1 := by cases s <;> simp [sgn]
theorem fD_len (r : Nat) : (fD r).length ≤ (Lib.decDigits (shD (fM r) (fE r))).length := trim_len _
theorem dd_bd (r : Nat) (h0 : 0 < r) (hr : r < Ieee.double.infRung) : (Lib.decDigits (shD (fM r) (fE r))).length ≤ 20 := by
  obtain ⟨d1, d2⟩ := shD_bd (fM_good h0 hr)
  exact dd_len _ (by omega)
theorem sh_bd (r : Nat) (h1 : 4517329193108106637 ≤ r) (h2 : r < 4921056587992461136) : -25 ≤ shP (fM r) (fE r) ∧ shP (fM r) (fE r) ≤ 8 := by
  have e52 : E52 = 4503599627370496 := rfl
  have hn := mg_normal (r := r) (by omega)
  have hb : bl (mg r) = 53 := by unfold bl; rw [if_neg (by omega), log2_top hn.1 hn.2]
  have hpl : pl r = -1074 + ((r / 4503599627370496 - 1 : Nat) : Int) := by unfold pl; rw [if_neg (by omega), e52]
  have he : -84 ≤ fE r ∧ fE r ≤ 7 := by unfold fE; rw [hb, hpl]; omega
  have hs : -7 ≤ sP (fM r) (fE r) ∧ sP (fM r) (fE r) ≤ 24 := by
    unfold sP
    split
    · unfold skw
      omega
    · split
      · unfold l10
        omega
      · omega
  unfold shP
  split <;> omega
theorem ftF_len (s : Bool) (r : Nat) (h : r = 0 ∨ (4517329193108106637 ≤ r ∧ r < 4921056587992461136)) : 1 ≤ (ftF s r).length ∧ (ftF s r).length ≤ 29 := by
  have hg := sgn_len s
  unfold ftF
  split
  · rw [List.length_append, List.length_singleton]; omega
  · rename_i h0
    have h' := h.resolve_left h0
    have b1 := sh_bd r h'.1 h'.2
    have b2 := dd_bd r (by omega) (by rw [d_inf]; omega)
    have b3 := fD_len r
    have b4 := dec_len_pos (shD (fM r) (fE r))
    have b5 : fP r = ((Lib.decDigits (shD (fM r) (fE r))).length : Int) + shP (fM r) (fE r) := rfl
    generalize (Lib.decDigits (shD (fM r) (fE r))).length = n at *
    generalize shP (fM r) (fE r) = q at *
    generalize fP r = dp at *
    generalize fD r = D at *
    unfold fmF
    rw [List.length_append, List.length_append]
    by_cases c1 : 0 < dp
    · rw [if_pos c1, List.length_append, List.length_take, List.length_replicate]
      by_cases c2 : dp < (D.length : Int)
      · rw [if_pos c2, List.length_cons, List.length_append, List.length_replicate, List.length_drop]; omega
      · rw [if_neg c2, List.length_nil]; omega
    · rw [if_neg c1, List.length_singleton]
      by_cases c2 : dp < (D.length : Int)
      · rw [if_pos c2, List.length_cons, List.length_append, List.length_replicate, List.length_drop]; omega
      · rw [if_neg c2, List.length_nil]; omega
theorem ex_len (x : Int) : 3 ≤ (exT x).length ∧ (exT x).length ≤ 4 := by
  unfold exT
  rw [List.length_cons]
  split
  · simp
  · split <;> simp
theorem ftE_len (s : Bool) (r : Nat) (h0 : 0 < r) (hr : r < Ieee.double.infRung) : 4 ≤ (ftE s r).length ∧ (ftE s r).length ≤ 29 := by
  have hg := sgn_len s
  have b2 := dd_bd r h0 hr
  have b3 := fD_len r
  have b4 := ex_len (fP r - 1)
  unfold ftE fmE
  rw [List.length_append, List.length_append, List.length_append, List.length_append, List.length_singleton, List.length_singleton]
  by_cases c : 1 < (fD r).length
  · rw [if_pos c, List.length_cons, List.length_drop]; omega
  · rw [if_neg c, List.length_nil]; omega
theorem clE_len (s : Bool) (r : Nat) (h0 : 0 < r) (hr : r < Ieee.double.infRung) : 1 ≤ (clE (ftE s r)).length ∧ (clE (ftE s r)).length ≤ 29 := by
  have h := ftE_len s r h0 hr
  obtain ⟨P, a, b, c, d, hL⟩ := ftE_four s r
  rw [hL] at h ⊢
  rw [List.length_append] at h
  simp only [List.length_cons, List.length_nil] at h
  rw [clE_at]
  split
  · rw [List.length_append]; simp only [List.length_cons, List.length_nil]; omega
  · rw [List.length_append]; simp only [List.length_cons, List.length_nil]; omega
theorem marT_len (s : Bool) (r : Nat) : 1 ≤ (marT s r).length ∧ (marT s r).length ≤ 29 := by
  unfold marT
  split
  · simp
  · split
    · exact clE_len _ _ (by omega) (by rw [d_inf]; omega)
    · unfold mfT
      split
      · exact ftF_len _ _ (by assumption)
      · exact clE_len _ _ (by omega) (by rw [d_inf]; omega)
end Go.Proofs.YtdkccihoecpcaaaGreatFmt
namespace Go.Proofs.YtdkccihoecpcaaaGreatFmt
open Go.RowKit Go
def LawPostS (w : World) (e : Ending) (w' : World) : Prop := e = .returned (.bool true) ∧ Below w.heap.size w w'
theorem tab_top {B : Nat} {w : World} (h : Tab B w) : Tab w.heap.size w := by
  obtain ⟨h1, g, hg, h2, h3⟩ := h
  exact ⟨h1, g, hg, Nat.lt_of_lt_of_le h2 h3, Nat.le_refl _⟩
theorem p10_top {B : Nat} {w : World} (h : P10 B w) : P10 w.heap.size w := ⟨h.1, Nat.lt_of_lt_of_le h.2.1 h.2.2, Nat.le_refl _⟩
theorem rd_below {v : Value} {l : List UInt8} {w w' : World} (h : Rd v l w) (hb : Below w.heap.size w w') : Rd v l w' := by
  obtain ⟨ao, c, rfl, hc⟩ := h
  refine ⟨ao, c, rfl, fun k hk => ?_⟩
  obtain ⟨g, e, h1⟩ := hc k hk
  refine ⟨g, e, ?_⟩
  rw [← h1]
  exact hb.cell (p := ⟨g, k, none⟩) (World.block_lt_of_cell? _ _ h1)
theorem below_drewN {B : Nat} (w : World) (n : Nat) : Below B w (w.drewN n) := ⟨rfl, rfl, rfl, Nat.le_refl _, fun _ _ => rfl⟩
theorem below_next {B : Nat} {w a b : World} (h : Below B w a) (hB : B ≤ a.heap.size) (h2 : Below a.heap.size a b) : Below B w b := h.trans (h2.mono hB)
theorem bl_size {B : Nat} {w a : World} (hB : B ≤ w.heap.size) (h : Below B w a) : B ≤ a.heap.size := Nat.le_trans hB h.size
def txB (b : Bool) : List UInt8 := if b then [116, 114, 117, 101] else [102, 97, 108, 115, 101]
set_option maxRecDepth 100000 in
set_option maxHeartbeats 3200000 in
theorem lawSc (n : Int) (hn : -9223372036854775808 ≤ n ∧ n ≤ 9223372036854775807) (b : Bool) (x : Nat) (hx : x < 18446744073709551616) (w : World) (hP : P10 w.heap.size w) (hT : Tab w.heap.size w) : Calls Tryz.prog 5 #[.int .i64 n, .bool b, .float .f64 x] w (LawPostS w) := by
  obtain ⟨s, r, rfl, hr⟩ := word_split x hx
  have HM1 := Lib.hid (zzMn _ w (writesB_nil w))
  have HM2 := Lib.hid (fun w' => zzMb b _ w' (writesB_bool w' b))
  have HM3 := Lib.hid (fun (w' : World) (hb : Below w.heap.size w w') => zzMi n _ w' (writesB_int w' n hn (tab_top (tab_below hT hb))))
  have HM4 := Lib.hid (fun (w' : World) (hb : Below w.heap.size w w') => zzMf _ _ w' (writesB_float w' s r hr (fun h1 h2 => fP_bd r h1 h2) (p10_top (p10_below hP hb)) (tab_top (tab_below hT hb))))
  have HFT := Lib.hid (ftab s r hr)
  have HL := Lib.hid (marT_len s r).2
  have HLi := Lib.hid (Lib.itoa_length_le n hn.1 hn.2)
  have HAI := Lib.hid (fun (w' : World) => appInt64 w'.heap.size (.slice none 0 0) [] n hn w' (own_nil _ _) (Nat.le_refl _) (by simp))
  clear hP hT hr
  generalize Ieee.double.word s r = X at *
  generalize marT s r = L at *
  cases b
  · go_enter Tryz.func5, Tryz.ntmps5
    go_wp2_with fail
    try go_at_call 15
    refine HM1.out.mono ?_
    rintro e w1 ⟨u1, rfl, hu1, hb1⟩
    have HU1 := Lib.hid (rd_of_own hu1)
    have HB1 := Lib.hid (show Below w.heap.size w w1 from hb1)
    clear hu1 hb1 HM1
    go_wp2_with fail
    try go_at_call 16
    refine (sameRR [110, 117, 108, 108] u1 _ _ (by decide) (rd_below HU1.out (below_new _ _)) (rd_at w1 _ [110, 117, 108, 108] 4 (4, 5) rfl)).mono ?_
    rintro e w2 ⟨rfl, k1, hk1⟩
    have HB2 := Lib.hid (show Below w.heap.size w w2 from by rw [hk1]; exact (below_next HB1.out HB1.out.size (below_new w1 _)).trans (below_drewN _ _))
    clear hk1 HU1 HB1
    go_wp2_with fail
    try go_at_call 17
    refine (HM2.out _).mono ?_
    rintro e w3 ⟨u2, rfl, hu2, hb3⟩
    have HU2 := Lib.hid (rd_of_own hu2)
    have HB3 := Lib.hid (show Below w.heap.size w w3 from below_next HB2.out HB2.out.size hb3)
    clear hu2 hb3 HM2 HB2
    go_wp2_with fail
    try go_at_call 16
    refine (sameRR [102, 97, 108, 115, 101] u2 _ _ (by decide) (rd_below HU2.out (below_new _ _)) (rd_at w3 _ [102, 97, 108, 115, 101] 5 (5, 6) rfl)).mono ?_
    rintro e w4 ⟨rfl, k2, hk2⟩
    have HB4 := Lib.hid (show Below w.heap.size w w4 from by rw [hk2]; exact (below_next HB3.out HB3.out.size (below_new w3 _)).trans (below_drewN _ _))
    clear hk2 HU2 HB3
    go_wp2_with fail
    try go_at_call 18
    refine (HM3.out _ HB4.out).mono ?_
    rintro e w5 ⟨u3, rfl, hu3, hb5⟩
    have HU3 := Lib.hid hu3
    have HB5 := Lib.hid (show Below w.heap.size w w5 from below_next HB4.out HB4.out.size hb5)
    clear hu3 hb5 HM3 HB4
    go_wp2_with fail
    try go_at_call 19
    refine (HAI.out _).mono ?_
    rintro e w6 ⟨v3, rfl, hv3, hb6⟩
    have HV3 := Lib.hid (rd_of_own hv3)
    have HU3' := Lib.hid (rd_below (rd_of_own HU3.out) hb6)
    have HB6 := Lib.hid (show Below w.heap.size w w6 from below_next HB5.out HB5.out.size hb6)
    clear hv3 hb6 HU3 HB5
    go_wp2_with fail
    try go_at_call 16
    refine (sameRR (Lib.itoa n) u3 v3 _ (by have := HLi.out; omega) HU3'.out HV3.out).mono ?_
    rintro e w7 ⟨rfl, k3, hk3⟩
    have HB7 := Lib.hid (show Below w.heap.size w w7 from by rw [hk3]; exact HB6.out.trans (below_drewN _ _))
    clear hk3 HU3' HV3 HB6
    go_wp2_with fail
    try go_at_call 20
    refine (HM4.out _ HB7.out).mono ?_
    rintro e w8 ⟨u4, rfl, hu4, hb8⟩
    have HU4 := Lib.hid (rd_of_own hu4)
    have HB8 := Lib.hid (show Below w.heap.size w w8 from below_next HB7.out HB7.out.size hb8)
    clear hu4 hb8 HM4 HB7
    go_wp2_with fail
    try go_at_call 21
    refine (HFT.out _).mono ?_
    rintro e w9 ⟨v4, k, rfl, hv4, hb9⟩
    have HV4 := Lib.hid hv4
    have HU4' := Lib.hid (rd_below HU4.out hb9)
    have HB9 := Lib.hid (show Below w.heap.size w w9 from below_next HB8.out HB8.out.size hb9)
    clear hv4 hb9 HU4 HB8
    cases k
    · go_wp2
      go_ret
      exact ⟨rfl, HB9.out⟩
    · go_wp2_with fail
      try go_at_call 16
      refine (sameRR L u4 v4 _ (by have := HL.out; omega) HU4'.out (HV4.out (by first | trivial | rfl))).mono ?_
      rintro e w10 ⟨rfl, k4, rfl⟩
      go_wp2
      go_ret
      exact ⟨rfl, HB9.out.trans (below_drewN _ _)⟩
  · go_enter Tryz.func5, Tryz.ntmps5
    go_wp2_with fail
    try go_at_call 15
    refine HM1.out.mono ?_
    rintro e w1 ⟨u1, rfl, hu1, hb1⟩
    have HU1 := Lib.hid (rd_of_own hu1)
    have HB1 := Lib.hid (show Below w.heap.size w w1 from hb1)
    clear hu1 hb1 HM1
    go_wp2_with fail
    try go_at_call 16
    refine (sameRR [110, 117, 108, 108] u1 _ _ (by decide) (rd_below HU1.out (below_new _ _)) (rd_at w1 _ [110, 117, 108, 108] 4 (4, 5) rfl)).mono ?_
    rintro e w2 ⟨rfl, k1, hk1⟩
    have HB2 := Lib.hid (show Below w.heap.size w w2 from by rw [hk1]; exact (below_next HB1.out HB1.out.size (below_new w1 _)).trans (below_drewN _ _))
    clear hk1 HU1 HB1
    go_wp2_with fail
    try go_at_call 17
    refine (HM2.out _).mono ?_
    rintro e w3 ⟨u2, rfl, hu2, hb3⟩
    have HU2 := Lib.hid (rd_of_own hu2)
    have HB3 := Lib.hid (show Below w.heap.size w w3 from below_next HB2.out HB2.out.size hb3)
    clear hu2 hb3 HM2 HB2
    go_wp2_with fail
    try go_at_call 16
    refine (sameRR [116, 114, 117, 101] u2 _ _ (by decide) (rd_below HU2.out (((Below.refl _ _).alloc (Nat.le_refl _) _).alloc (by simp) _)) (rd_at _ _ [116, 114, 117, 101] 4 (4, 5) (by simp))).mono ?_
    rintro e w4 ⟨rfl, k2, hk2⟩
    have HB4 := Lib.hid (show Below w.heap.size w w4 from by rw [hk2]; exact (below_next HB3.out HB3.out.size (((Below.refl _ _).alloc (Nat.le_refl _) _).alloc (by simp) _)).trans (below_drewN _ _))
    clear hk2 HU2 HB3
    go_wp2_with fail
    try go_at_call 18
    refine (HM3.out _ HB4.out).mono ?_
    rintro e w5 ⟨u3, rfl, hu3, hb5⟩
    have HU3 := Lib.hid hu3
    have HB5 := Lib.hid (show Below w.heap.size w w5 from below_next HB4.out HB4.out.size hb5)
    clear hu3 hb5 HM3 HB4
    go_wp2_with fail
    try go_at_call 19
    refine (HAI.out _).mono ?_
    rintro e w6 ⟨v3, rfl, hv3, hb6⟩
    have HV3 := Lib.hid (rd_of_own hv3)
    have HU3' := Lib.hid (rd_below (rd_of_own HU3.out) hb6)
    have HB6 := Lib.hid (show Below w.heap.size w w6 from below_next HB5.out HB5.out.size hb6)
    clear hv3 hb6 HU3 HB5
    go_wp2_with fail
    try go_at_call 16
    refine (sameRR (Lib.itoa n) u3 v3 _ (by have := HLi.out; omega) HU3'.out HV3.out).mono ?_
    rintro e w7 ⟨rfl, k3, hk3⟩
    have HB7 := Lib.hid (show Below w.heap.size w w7 from by rw [hk3]; exact HB6.out.trans (below_drewN _ _))
    clear hk3 HU3' HV3 HB6
    go_wp2_with fail
    try go_at_call 20
    refine (HM4.out _ HB7.out).mono ?_
    rintro e w8 ⟨u4, rfl, hu4, hb8⟩
    have HU4 := Lib.hid (rd_of_own hu4)
    have HB8 := Lib.hid (show Below w.heap.size w w8 from below_next HB7.out HB7.out.size hb8)
    clear hu4 hb8 HM4 HB7
    go_wp2_with fail
    try go_at_call 21
    refine (HFT.out _).mono ?_
    rintro e w9 ⟨v4, k, rfl, hv4, hb9⟩
    have HV4 := Lib.hid hv4
    have HU4' := Lib.hid (rd_below HU4.out hb9)
    have HB9 := Lib.hid (show Below w.heap.size w w9 from below_next HB8.out HB8.out.size hb9)
    clear hv4 hb9 HU4 HB8
    cases k
    · go_wp2
      go_ret
      exact ⟨rfl, HB9.out⟩
    · go_wp2_with fail
      try go_at_call 16
      refine (sameRR L u4 v4 _ (by have := HL.out; omega) HU4'.out (HV4.out (by first | trivial | rfl))).mono ?_
      rintro e w10 ⟨rfl, k4, rfl⟩
      go_wp2
      go_ret
      exact ⟨rfl, HB9.out.trans (below_drewN _ _)⟩
end Go.Proofs.YtdkccihoecpcaaaGreatFmt
