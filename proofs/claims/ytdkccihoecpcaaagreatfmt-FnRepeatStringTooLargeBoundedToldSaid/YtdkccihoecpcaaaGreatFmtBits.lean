/- Words of floats: their order against the literals of the code, and the bit work on them. Conditions: none. -/
import Derived.Test.YtdkccihoecpcaaaGreatFmtFrexpPlain
import Derived.Laws.BitsAllLaws
import Derived.Laws.Bits64b
namespace Go.Proofs.YtdkccihoecpcaaaGreatFmt
open Go
theorem f64_order (a b : Nat) : FloatKind.f64.format.order a b = Ieee.double.order a b := rfl
theorem ord_pair (s t : Bool) (r q : Nat) (hr : r ≤ 9218868437227405312) (hq : q ≤ 9218868437227405312) :
    (FloatKind.f64.format.order (Ieee.double.word s r) (Ieee.double.word t q) == some .lt) = decide (sv s r < sv t q) ∧ (FloatKind.f64.format.order (Ieee.double.word s r) (Ieee.double.word t q) == some .gt) = decide (sv t q < sv s r) ∧ (FloatKind.f64.format.order (Ieee.double.word s r) (Ieee.double.word t q) == some .eq) = decide (sv s r = sv t q) := by
  have h := order_word s t r q (by rw [d_inf]; exact hr) (by rw [d_inf]; exact hq)
  have hc : compare (sv s r) (sv t q) = compareOfLessAndEq (sv s r) (sv t q) := rfl
  rw [f64_order, h, hc]
  unfold compareOfLessAndEq
  by_cases h1 : sv s r < sv t q
  · rw [if_pos h1, decide_eq_true h1, decide_eq_false (by omega), decide_eq_false (by omega)]
    exact ⟨rfl, rfl, rfl⟩
  · rw [if_neg h1]
    by_cases h2 : sv s r = sv t q
    · rw [if_pos h2, decide_eq_false h1, decide_eq_false (by omega), decide_eq_true h2]
      exact ⟨rfl, rfl, rfl⟩
    · rw [if_neg h2, decide_eq_false h1, decide_eq_true (by omega), decide_eq_false h2]
      exact ⟨rfl, rfl, rfl⟩
theorem ord_nan (s : Bool) (r b : Nat) (h : 9218868437227405312 < r) (h' : r < 9223372036854775808) (o : Ordering) : (FloatKind.f64.format.order (Ieee.double.word s r) b == some o) = false ∧ (FloatKind.f64.format.order b (Ieee.double.word s r) == some o) = false := by
  have hn := read_nan s r (by rw [d_inf]; exact h) h'
  rw [f64_order, f64_order, order_nan_left hn, order_nan_right hn]
  exact ⟨rfl, rfl⟩
theorem sv_false (r : Nat) : sv false r = r := rfl
theorem sv_true (r : Nat) : sv true r = -(r : Int) := rfl
theorem lt_zero (s : Bool) (r : Nat) (hr : r ≤ 9218868437227405312) : (FloatKind.f64.format.order (Ieee.double.word s r) 0 == some .lt) = (s && decide (0 < r)) := by
  have h := (ord_pair s false r 0 hr (by omega)).1
  rw [word_false] at h
  rw [h, sv_false]
  cases s
  · rw [sv_false, Bool.false_and]; exact decide_eq_false (by omega)
  · rw [sv_true, Bool.true_and]
    by_cases e : 0 < r
    · rw [decide_eq_true e, decide_eq_true (by omega)]
    · rw [decide_eq_false e, decide_eq_false (by omega)]
theorem eq_zero (s : Bool) (r : Nat) (hr : r ≤ 9218868437227405312) : (FloatKind.f64.format.order (Ieee.double.word s r) 0 == some .eq) = decide (r = 0) := by
  have h := (ord_pair s false r 0 hr (by omega)).2.2
  rw [word_false] at h
  rw [h, sv_false]
  by_cases e : r = 0
  · rw [decide_eq_true e, e]; cases s <;> rfl
  · rw [decide_eq_false e]; cases s
    · rw [sv_false]; exact decide_eq_false (by omega)
    · rw [sv_true]; exact decide_eq_false (by omega)
theorem gt_max (r : Nat) (h : r < 9223372036854775808) : (FloatKind.f64.format.order r 9218868437227405311 == some .gt) = decide (r = 9218868437227405312) := by
  by_cases e : r ≤ 9218868437227405312
  · have h := (ord_pair false false r 9218868437227405311 e (by omega)).2.1
    rw [word_false, word_false] at h
    rw [h, sv_false, sv_false]
    by_cases e' : r = 9218868437227405312
    · rw [decide_eq_true e', decide_eq_true (by omega)]
    · rw [decide_eq_false e', decide_eq_false (by omega)]
  · have h := (ord_nan false r 9218868437227405311 (by omega) h .gt).1
    rw [word_false] at h
    rw [h]; exact (decide_eq_false (by omega)).symm
/-- An infinity, as the law's own test sees it. -/
theorem out_of_range (s : Bool) (r : Nat) (h : r < 9223372036854775808) : (FloatKind.f64.format.order (Ieee.double.word s r) 9218868437227405311 == some .gt || FloatKind.f64.format.order (Ieee.double.word s r) 18442240474082181119 == some .lt) = decide (r = 9218868437227405312) := by
  by_cases e : r ≤ 9218868437227405312
  · have h1 := (ord_pair s false r 9218868437227405311 e (by omega)).2.1
    have h2 := (ord_pair s true r 9218868437227405311 e (by omega)).1
    rw [word_false] at h1
    have hw : Ieee.double.word true 9218868437227405311 = 18442240474082181119 := by decide
    rw [hw] at h2
    rw [h1, h2, sv_false, sv_true]
    cases s
    · rw [sv_false, decide_eq_false (p := (r : Int) < _) (by omega), Bool.or_false]
      by_cases e' : r = 9218868437227405312
      · rw [decide_eq_true e', decide_eq_true (by omega)]
      · rw [decide_eq_false e', decide_eq_false (by omega)]
    · rw [sv_true, decide_eq_false (p := (_ : Int) < -(r : Int)) (by omega), Bool.false_or]
      by_cases e' : r = 9218868437227405312
      · rw [decide_eq_true e', decide_eq_true (by omega)]
      · rw [decide_eq_false e', decide_eq_false (by omega)]
  · rw [(ord_nan s r _ (by omega) h .gt).1, (ord_nan s r _ (by omega) h .lt).1]
    exact (decide_eq_false (by omega)).symm
theorem ne_self (s : Bool) (r : Nat) (h : r < 9223372036854775808) : (FloatKind.f64.format.order (Ieee.double.word s r) (Ieee.double.word s r) != some .eq) = decide (9218868437227405312 < r) := by
  by_cases e : r ≤ 9218868437227405312
  · rw [bne, (ord_pair s s r r e e).2.2, decide_eq_true rfl]; exact (decide_eq_false (by omega)).symm
  · rw [bne, (ord_nan s r _ (by omega) h .eq).1]; exact (decide_eq_true (by omega)).symm
theorem eq_self (s : Bool) (r : Nat) (h : r ≤ 9218868437227405312) : (FloatKind.f64.format.order (Ieee.double.word s r) (Ieee.double.word s r) == some .eq) = true := by
  rw [(ord_pair s s r r h h).2.2]; exact decide_eq_true rfl
theorem lt_nat (r q : Nat) (h : r ≤ 9218868437227405312) (h' : q ≤ 9218868437227405312) : (FloatKind.f64.format.order r q == some .lt) = decide (r < q) := by
  have e := (ord_pair false false r q h h').1
  rw [word_false, word_false, sv_false, sv_false] at e
  rw [e]
  by_cases x : r < q
  · rw [decide_eq_true x, decide_eq_true (by omega)]
  · rw [decide_eq_false x, decide_eq_false (by omega)]
theorem ge_nat (r q : Nat) (h : r ≤ 9218868437227405312) (h' : q ≤ 9218868437227405312) : (FloatKind.f64.format.order r q == some .gt || FloatKind.f64.format.order r q == some .eq) = decide (q ≤ r) := by
  have e := (ord_pair false false r q h h').2
  rw [word_false, word_false, sv_false, sv_false] at e
  rw [e.1, e.2]
  by_cases x : q ≤ r
  · rw [decide_eq_true x]
    by_cases y : (q : Int) < r
    · rw [decide_eq_true y]; rfl
    · rw [decide_eq_true (p := (r : Int) = q) (by omega), Bool.or_true]
  · rw [decide_eq_false x, decide_eq_false (by omega), decide_eq_false (by omega)]; rfl
theorem float_lt {x : Nat} (h : (Lit.float .f64 x).wf = true) : x < 18446744073709551616 := by
  simpa [Lit.wf] using h
/-! ### Bits -/
theorem word_nat (s : Bool) (r : Nat) : Ieee.double.word s r = s.toNat * 9223372036854775808 + r := by
  unfold Ieee.Format.word
  rw [d_sign]
  cases s <;> simp
theorem word_lt (s : Bool) (r : Nat) (h : r < 9223372036854775808) : Ieee.double.word s r < 18446744073709551616 := by
  rw [word_nat]; cases s <;> simp <;> omega
theorem and_split (k a b c d : Nat) (hb : b < 2 ^ k) (hd : d < 2 ^ k) : (2 ^ k * a + b) &&& (2 ^ k * c + d) = 2 ^ k * (a &&& c) + (b &&& d) := by
  apply Nat.eq_of_testBit_eq
  intro j
  have hbd : b &&& d < 2 ^ k := Nat.and_lt_two_pow _ hd
  rw [Nat.testBit_and, Nat.testBit_two_pow_mul_add _ hb, Nat.testBit_two_pow_mul_add _ hd, Nat.testBit_two_pow_mul_add _ hbd]
  split <;> rw [Nat.testBit_and]
theorem or_split (k a b c d : Nat) (hb : b < 2 ^ k) (hd : d < 2 ^ k) : (2 ^ k * a + b) ||| (2 ^ k * c + d) = 2 ^ k * (a ||| c) + (b ||| d) := by
  apply Nat.eq_of_testBit_eq
  intro j
  have hbd : b ||| d < 2 ^ k := Nat.or_lt_two_pow hb hd
  rw [Nat.testBit_or, Nat.testBit_two_pow_mul_add _ hb, Nat.testBit_two_pow_mul_add _ hd, Nat.testBit_two_pow_mul_add _ hbd]
  split <;> rw [Nat.testBit_or]
theorem abs_bits (s : Bool) (r : Nat) (h : r < 9223372036854775808) : bits .andNot .u64 ((Ieee.double.word s r : Nat) : Int) 9223372036854775808 = (r : Int) := by
  have e := u64_andNot_nat (Ieee.double.word s r) 9223372036854775808 (word_lt s r h) (by omega)
  have e2 : Ieee.double.word s r &&& (18446744073709551615 - 9223372036854775808) = r := by
    have := Nat.and_two_pow_sub_one_eq_mod (Ieee.double.word s r) 63
    rw [show (2 : Nat) ^ 63 - 1 = 18446744073709551615 - 9223372036854775808 from by decide] at this
    rw [this, word_nat]
    cases s <;> simp <;> omega
  rw [e2] at e
  exact e
theorem exp_bits (s : Bool) (r : Nat) (h : r < 9218868437227405312) : bits .and .u64 (((Ieee.double.word s r : Nat) : Int) / 4503599627370496) 2047 = ((r / E52 : Nat) : Int) := by
  have hlt : Ieee.double.word s r / E52 < 18446744073709551616 := Nat.lt_of_le_of_lt (Nat.div_le_self _ _) (word_lt s r (by omega))
  have e := bits_and_u64_nat (Ieee.double.word s r / E52) 2047 hlt (by omega)
  have e2 : Ieee.double.word s r / E52 &&& 2047 = r / E52 := by
    have := Nat.and_two_pow_sub_one_eq_mod (Ieee.double.word s r / E52) 11
    rw [show (2 : Nat) ^ 11 - 1 = 2047 from by decide] at this
    rw [this, word_nat]
    unfold E52
    cases s <;> simp <;> omega
  rw [e2] at e
  rw [← e]
  congr 1
theorem clear_bits (s : Bool) (r : Nat) (h : r < 9218868437227405312) : bits .andNot .u64 ((Ieee.double.word s r : Nat) : Int) 9218868437227405312 = ((Ieee.double.word s (r % E52) : Nat) : Int) := by
  have e := u64_andNot_nat (Ieee.double.word s r) 9218868437227405312 (word_lt s r (by omega)) (by omega)
  have e2 : Ieee.double.word s r &&& (18446744073709551615 - 9218868437227405312) = Ieee.double.word s (r % E52) := by
    have p52 : (2 : Nat) ^ 52 = E52 := by decide
    have hm : r % E52 < 2 ^ 52 := by rw [p52]; exact Nat.mod_lt _ (by decide)
    have a1 : Ieee.double.word s r = 2 ^ 52 * (2 ^ 11 * s.toNat + r / E52) + r % E52 := by rw [word_nat, p52]; unfold E52; cases s <;> simp <;> omega
    have a2 : 18446744073709551615 - 9218868437227405312 = 2 ^ 52 * (2 ^ 11 * 1 + 0) + (2 ^ 52 - 1) := by decide
    rw [a1, a2, and_split 52 _ _ _ _ hm (by decide), and_split 11 _ _ _ _ (by rw [show (2 : Nat) ^ 11 = 2048 from by decide]; unfold E52; omega) (by decide), Nat.and_two_pow_sub_one_eq_mod, Nat.mod_eq_of_lt hm, Nat.and_zero]
    rw [word_nat, p52]
    unfold E52
    cases s <;> simp
  rw [e2] at e
  exact e
theorem set_bits (s : Bool) (m : Nat) (h : m < E52) : bits .or .u64 ((Ieee.double.word s m : Nat) : Int) 4602678819172646912 = ((Ieee.double.word s (HALF + m) : Nat) : Int) := by
  have e := bits_or_u64_nat (Ieee.double.word s m) 4602678819172646912 (word_lt s m (by unfold E52 at h; omega)) (by omega)
  have e2 : Ieee.double.word s m ||| 4602678819172646912 = Ieee.double.word s (HALF + m) := by
    have p52 : (2 : Nat) ^ 52 = E52 := by decide
    have hm : m < 2 ^ 52 := by rw [p52]; exact h
    have a1 : Ieee.double.word s m = 2 ^ 52 * (2048 * s.toNat) + m := by rw [word_nat, p52]; unfold E52; cases s <;> simp
    have a2 : 4602678819172646912 = 2 ^ 52 * 1022 + 0 := by decide
    have a3 : 2048 * s.toNat ||| 1022 = 2048 * s.toNat + 1022 := by cases s <;> decide
    rw [a1, a2, or_split 52 _ _ _ _ hm (by decide), a3, Nat.or_zero, word_nat, p52]
    unfold HALF E52
    cases s <;> simp <;> omega
  rw [e2] at e
  exact e
theorem neg_word (s : Bool) (r : Nat) (h : r < 9223372036854775808) : Op.negFloat .f64 (Ieee.double.word s r) = Ieee.double.word (!s) r := by
  have p : Op.negFloat .f64 (Ieee.double.word s r) = Ieee.double.word s r ^^^ 2 ^ 63 := rfl
  have hx : ∀ a c : Nat, (2 ^ 63 * a + r) ^^^ (2 ^ 63 * c + 0) = 2 ^ 63 * (a ^^^ c) + (r ^^^ 0) := by
    intro a c
    have hr : r < 2 ^ 63 := by rw [show (2 : Nat) ^ 63 = 9223372036854775808 from by decide]; exact h
    apply Nat.eq_of_testBit_eq
    intro j
    rw [Nat.testBit_xor, Nat.testBit_two_pow_mul_add _ hr, Nat.testBit_two_pow_mul_add _ (by decide), Nat.testBit_two_pow_mul_add _ (by rw [Nat.xor_zero]; exact hr)]
    split <;> rw [Nat.testBit_xor]
  have a1 : Ieee.double.word s r = 2 ^ 63 * s.toNat + r := by rw [word_nat, show (2 : Nat) ^ 63 = 9223372036854775808 from by decide, Nat.mul_comm]
  have a2 : (2 : Nat) ^ 63 = 2 ^ 63 * 1 + 0 := by decide
  rw [p, a1]
  conv => lhs; rhs; rw [a2]
  rw [hx, Nat.xor_zero, word_nat, show (2 : Nat) ^ 63 = 9223372036854775808 from by decide]
  cases s
  · simp
  · simp
end Go.Proofs.YtdkccihoecpcaaaGreatFmt
