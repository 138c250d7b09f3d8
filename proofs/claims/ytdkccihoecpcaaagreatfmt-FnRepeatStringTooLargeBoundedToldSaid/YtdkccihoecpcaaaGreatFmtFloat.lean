/- Floats as words: what a finite word stands for, that an exactly representable number is written as its word, the order of words as the order of their rungs, and doubling, halving and scaling by 2 to the 52. Conditions: none. -/
import Derived.Laws.FloatArith
namespace Go.Proofs.YtdkccihoecpcaaaGreatFmt
open Go
/-- 2 to the 52. -/
abbrev E52 : Nat := 4503599627370496
theorem d_binade : Ieee.double.binade = E52 := by decide
theorem d_sign : Ieee.double.signWeight = 9223372036854775808 := by decide
theorem d_inf : Ieee.double.infRung = 9218868437227405312 := by decide
theorem d_least : Ieee.double.leastPlace = -1074 := by decide
theorem d_fraction : Ieee.double.fractionBits = 52 := rfl
/-- The magnitude and the place that a rung stands for. -/
def mg (r : Nat) : Nat := if r < E52 then r else E52 + r % E52
def pl (r : Nat) : Int := if r < E52 then -1074 else -1074 + ((r / E52 - 1 : Nat) : Int)
theorem pow_pos2 (k : Nat) : 0 < 2 ^ k := Nat.two_pow_pos k
theorem log2_mul_pow {m : Nat} (hm : 0 < m) (k : Nat) : (m * 2 ^ k).log2 = m.log2 + k := by
  have h1 : m * 2 ^ k ≠ 0 := Nat.ne_of_gt (Nat.mul_pos hm (pow_pos2 k))
  rw [Nat.log2_eq_iff h1]
  have h2 := Nat.log2_self_le (Nat.ne_of_gt hm)
  have h3 := Nat.lt_log2_self (n := m)
  constructor
  · rw [Nat.pow_add]; exact Nat.mul_le_mul_right _ h2
  · rw [show m.log2 + k + 1 = m.log2 + 1 + k from by omega, Nat.pow_add]
    exact (Nat.mul_lt_mul_right (pow_pos2 k)).2 h3
theorem log2_top {m : Nat} (h1 : E52 ≤ m) (h2 : m < 2 * E52) : m.log2 = 52 := by
  rw [Nat.log2_eq_iff (by unfold E52 at h1; omega)]
  have e1 : (2 : Nat) ^ 52 = E52 := by decide
  have e2 : (2 : Nat) ^ (52 + 1) = 2 * E52 := by decide
  rw [e1, e2]; exact ⟨h1, h2⟩
theorem log2_low {m : Nat} (h : m < E52) (hm : 0 < m) : m.log2 < 52 := by
  rw [Nat.log2_lt (by omega)]
  have e1 : (2 : Nat) ^ 52 = E52 := by decide
  rw [e1]; exact h
theorem mg_normal {r : Nat} (h : E52 ≤ r) : E52 ≤ mg r ∧ mg r < 2 * E52 := by
  unfold mg
  rw [if_neg (by omega)]
  have := Nat.mod_lt r (show 0 < E52 by decide)
  omega
theorem mg_pos {r : Nat} (h : 0 < r) : 0 < mg r := by
  unfold mg
  split
  · exact h
  · unfold E52; omega
theorem read_finite (s : Bool) (r : Nat) (h : r < Ieee.double.infRung) : Ieee.double.read (Ieee.double.word s r) = .number s (mg r) (pl r) := by
  rw [d_inf] at h
  have hm : Ieee.double.word s r % Ieee.double.signWeight = r := by
    unfold Ieee.Format.word
    rw [d_sign]
    split <;> omega
  have hs : (Ieee.double.word s r / Ieee.double.signWeight % 2 == 1) = s := by
    unfold Ieee.Format.word
    rw [d_sign]
    cases s
    · simp; omega
    · simp; omega
  unfold Ieee.Format.read
  simp only [hm, hs, d_binade, d_inf, d_least]
  unfold mg pl
  split
  · rfl
  · first | rfl | rw [if_pos h]
theorem read_infinity (s : Bool) : Ieee.double.read (Ieee.double.word s Ieee.double.infRung) = .infinity s := by
  cases s <;> decide
/-- An exactly representable number is written as its word. -/
theorem nearest_exact (s : Bool) (m : Nat) (p : Int) (r k : Nat) (hr : r < Ieee.double.infRung) (hm : 0 < m) (hv : (m = mg r * 2 ^ k ∧ p + k = pl r) ∨ (m * 2 ^ k = mg r ∧ p = pl r + k)) :
    Ieee.double.nearest s m p = Ieee.double.word s r := by
  have hM : 0 < mg r := by
    rcases hv with ⟨h, _⟩ | ⟨h, _⟩
    · rcases Nat.eq_zero_or_pos (mg r) with e | e
      · rw [e] at h; simp at h; omega
      · exact e
    · rw [← h]; exact Nat.mul_pos hm (pow_pos2 k)
  have hlog : p + m.log2 = pl r + (mg r).log2 := by
    rcases hv with ⟨h, h'⟩ | ⟨h, h'⟩
    · rw [h, log2_mul_pow hM]; omega
    · rw [← h, log2_mul_pow hm]; omega
  have hlast : max (p + (m.log2 : Int) - (52 : Int)) (-1074) = pl r := by
    rw [hlog]
    by_cases hr' : r < E52
    · have e1 : mg r = r := by unfold mg; rw [if_pos hr']
      have e2 : pl r = -1074 := by unfold pl; rw [if_pos hr']
      have := log2_low hr' (e1 ▸ hM)
      rw [e1, e2]; omega
    · have hn := mg_normal (r := r) (by omega)
      have e2 : pl r = -1074 + ((r / E52 - 1 : Nat) : Int) := by unfold pl; rw [if_neg hr']
      rw [log2_top hn.1 hn.2, e2]; omega
  have hrung : ((pl r - (-1074)).toNat * E52 + mg r) = r := by
    by_cases hr' : r < E52
    · have e1 : mg r = r := by unfold mg; rw [if_pos hr']
      have e2 : pl r = -1074 := by unfold pl; rw [if_pos hr']
      rw [e1, e2]; simp
    · have e1 : mg r = E52 + r % E52 := by unfold mg; rw [if_neg hr']
      have e2 : pl r = -1074 + ((r / E52 - 1 : Nat) : Int) := by unfold pl; rw [if_neg hr']
      rw [e1, e2]
      unfold E52 at *
      omega
  have hkept : Ieee.Toward.even.cut s (m <<< (p - pl r).toNat) (pl r - p).toNat = mg r := by
    unfold Ieee.Toward.cut
    rcases hv with ⟨h, h'⟩ | ⟨h, h'⟩
    · have e1 : (p - pl r).toNat = 0 := by omega
      have e2 : (pl r - p).toNat = k := by omega
      have e3 : min k (m.log2 + 2) = k := by rw [h, log2_mul_pow hM]; omega
      simp only [e1, e2, Nat.shiftLeft_zero, e3]
      rw [Nat.one_shiftLeft, h, Nat.mul_div_cancel _ (pow_pos2 k), Nat.mul_mod_left]
      have := pow_pos2 k
      have c1 : decide (2 ^ k < 2 * 0) = false := by simp
      have c2 : (2 ^ k == 2 * 0) = false := by simp
      simp
    · have e1 : (p - pl r).toNat = k := by omega
      have e2 : (pl r - p).toNat = 0 := by omega
      simp only [e1, e2, Nat.zero_min, Nat.shiftLeft_zero]
      rw [Nat.shiftLeft_eq, h]
      simp [Nat.mod_one]
  unfold Ieee.Format.nearest
  rw [if_neg (by omega)]
  simp only [d_fraction, d_least, d_binade]
  have hl2 : max (p + (m.log2 : Int) - ((52 : Nat) : Int)) (-1074) = pl r := hlast
  rw [hl2, hkept, hrung, Nat.min_eq_left (Nat.le_of_lt hr)]
theorem write_exact (s : Bool) (m : Nat) (p : Int) (r k : Nat) (hr : r < Ieee.double.infRung) (hm : 0 < m) (hv : (m = mg r * 2 ^ k ∧ p + k = pl r) ∨ (m * 2 ^ k = mg r ∧ p = pl r + k)) :
    Ieee.double.write (.number s m p) = Ieee.double.word s r := nearest_exact s m p r k hr hm hv
/-! ### The order of words -/
/-- A rung's value in units of the least place. -/
def val (r : Nat) : Nat := mg r * 2 ^ (pl r + 1074).toNat
theorem val_low {r : Nat} (h : r < E52) : val r = r := by
  unfold val mg pl
  rw [if_pos h, if_pos h]
  simp
theorem val_high {r : Nat} (h : ¬ r < E52) : val r = (E52 + r % E52) * 2 ^ (r / E52 - 1) := by
  unfold val mg pl
  rw [if_neg h, if_neg h]
  congr 2
  omega
theorem val_succ (r : Nat) : val r < val (r + 1) := by
  by_cases h : r + 1 < E52
  · rw [val_low (show r < E52 by omega), val_low h]; omega
  · by_cases h' : r < E52
    · rw [val_low h', val_high h]
      have e : r + 1 = E52 := by omega
      rw [e]
      have : (E52 + E52 % E52) * 2 ^ (E52 / E52 - 1) = E52 := by decide
      rw [this]; exact h'
    · rw [val_high h', val_high h]
      have hp := pow_pos2 (r / E52 - 1)
      by_cases hf : r % E52 + 1 < E52
      · have e1 : (r + 1) / E52 = r / E52 := by unfold E52 at *; omega
        have e2 : (r + 1) % E52 = r % E52 + 1 := by unfold E52 at *; omega
        rw [e1, e2]
        exact (Nat.mul_lt_mul_right hp).2 (by omega)
      · have e1 : (r + 1) / E52 = r / E52 + 1 := by unfold E52 at *; omega
        have e2 : (r + 1) % E52 = 0 := by unfold E52 at *; omega
        have e3 : 1 ≤ r / E52 := by unfold E52 at *; omega
        rw [e1, e2, show r / E52 + 1 - 1 = (r / E52 - 1) + 1 from by omega, Nat.pow_succ, Nat.add_zero, ← Nat.mul_assoc, Nat.mul_comm E52, Nat.mul_assoc, Nat.mul_comm _ (E52 * 2)]
        have hlt := Nat.mod_lt r (show 0 < E52 by decide)
        exact (Nat.mul_lt_mul_right hp).2 (by omega)
theorem val_mono {r q : Nat} (h : r < q) : val r < val q := by
  induction q with
  | zero => omega
  | succ q ih =>
    by_cases e : r = q
    · rw [e]; exact val_succ q
    · exact Nat.lt_trans (ih (by omega)) (val_succ q)
theorem val_lt_iff (r q : Nat) : val r < val q ↔ r < q := by
  constructor
  · intro h
    rcases Nat.lt_trichotomy r q with e | e | e
    · exact e
    · rw [e] at h; omega
    · have := val_mono e; omega
  · exact val_mono
theorem val_inj {r q : Nat} : val r = val q ↔ r = q := by
  constructor
  · intro h
    rcases Nat.lt_trichotomy r q with e | e | e
    · have := val_mono e; omega
    · exact e
    · have := val_mono e; omega
  · intro h; rw [h]
/-- The signed rung: words that are no NaN are ordered as these. -/
def sv (s : Bool) (r : Nat) : Int := if s then -(r : Int) else r
theorem compare_congr {a b c d : Int} (h1 : a < b ↔ c < d) (h2 : a = b ↔ c = d) : compare a b = compare c d := by
  show compareOfLessAndEq a b = compareOfLessAndEq c d
  unfold compareOfLessAndEq
  by_cases e : a < b
  · rw [if_pos e, if_pos (h1.1 e)]
  · rw [if_neg e, if_neg (fun x => e (h1.2 x))]
    by_cases e' : a = b
    · rw [if_pos e', if_pos (h2.1 e')]
    · rw [if_neg e', if_neg (fun x => e' (h2.2 x))]
def svn (s : Bool) (n : Nat) : Int := if s then -(n : Int) else n
theorem signed_scaled (s : Bool) (r : Nat) (base : Int) (hb : base ≤ pl r) (hb' : -1074 ≤ base) : Ieee.signed s (mg r) (pl r - base).toNat * ((2 ^ (base + 1074).toNat : Nat) : Int) = svn s (val r) := by
  have e : (mg r <<< (pl r - base).toNat) * 2 ^ (base + 1074).toNat = val r := by
    unfold val
    rw [Nat.shiftLeft_eq, Nat.mul_assoc, ← Nat.pow_add]
    congr 2
    omega
  unfold Ieee.signed svn
  cases s
  · simp only [Bool.false_eq_true, if_false]
    rw [← Int.natCast_mul, e]
  · simp only [if_true]
    rw [Int.neg_mul, ← Int.natCast_mul, e]
theorem svn_lt (s t : Bool) (r q : Nat) : (svn s (val r) < svn t (val q) ↔ sv s r < sv t q) ∧ (svn s (val r) = svn t (val q) ↔ sv s r = sv t q) := by
  have h1 := val_lt_iff r q
  have h2 := val_lt_iff q r
  have h3 := @val_inj r q
  have h4 := val_lt_iff 0 r
  have h5 := val_lt_iff 0 q
  have z : val 0 = 0 := rfl
  rw [z] at h4 h5
  unfold svn sv
  cases s <;> cases t <;> simp only [Bool.false_eq_true, if_false, if_true] <;> constructor <;> constructor <;> intro h <;> omega
theorem pl_ge (r : Nat) : -1074 ≤ pl r := by unfold pl; split <;> omega
theorem order_word (s t : Bool) (r q : Nat) (hr : r ≤ Ieee.double.infRung) (hq : q ≤ Ieee.double.infRung) :
    Ieee.double.order (Ieee.double.word s r) (Ieee.double.word t q) = some (compare (sv s r) (sv t q)) := by
  unfold Ieee.Format.order
  rcases Nat.lt_or_eq_of_le hr with hr | rfl
  · rcases Nat.lt_or_eq_of_le hq with hq | rfl
    · rw [read_finite s r hr, read_finite t q hq]
      show some (compare (Ieee.signed s (mg r) (pl r - min (pl r) (pl q)).toNat) (Ieee.signed t (mg q) (pl q - min (pl r) (pl q)).toNat)) = _
      have hb1 := pl_ge r
      have hb2 := pl_ge q
      have e1 := signed_scaled s r (min (pl r) (pl q)) (by omega) (by omega)
      have e2 := signed_scaled t q (min (pl r) (pl q)) (by omega) (by omega)
      have hpos : (0 : Int) < ((2 ^ (min (pl r) (pl q) + 1074).toNat : Nat) : Int) := by have := pow_pos2 (min (pl r) (pl q) + 1074).toNat; omega
      generalize Ieee.signed s (mg r) (pl r - min (pl r) (pl q)).toNat = x at e1 ⊢
      generalize Ieee.signed t (mg q) (pl q - min (pl r) (pl q)).toNat = y at e2 ⊢
      generalize ((2 ^ (min (pl r) (pl q) + 1074).toNat : Nat) : Int) = c at e1 e2 hpos
      have hl := svn_lt s t r q
      rw [← e1, ← e2] at hl
      rw [compare_congr (c := sv s r) (d := sv t q)]
      · rw [← hl.1]
        exact ⟨fun h => Int.mul_lt_mul_of_pos_right h hpos, fun h => Int.lt_of_mul_lt_mul_right h (Int.le_of_lt hpos)⟩
      · rw [← hl.2]
        exact ⟨fun h => by rw [h], fun h => Int.eq_of_mul_eq_mul_right (Int.ne_of_gt hpos) h⟩
    · rw [read_finite s r hr, read_infinity t]
      rw [d_inf] at hr ⊢
      show some (if t then Ordering.gt else Ordering.lt) = _
      cases t
      · have : sv s r < sv false 9218868437227405312 := by unfold sv; cases s <;> simp <;> omega
        show some Ordering.lt = some (compareOfLessAndEq _ _)
        unfold compareOfLessAndEq; rw [if_pos this]
      · have : sv true 9218868437227405312 < sv s r := by unfold sv; cases s <;> simp <;> omega
        show some Ordering.gt = some (compareOfLessAndEq _ _)
        unfold compareOfLessAndEq; rw [if_neg (by omega), if_neg (by omega)]
  · rcases Nat.lt_or_eq_of_le hq with hq | rfl
    · rw [read_finite t q hq, read_infinity s]
      rw [d_inf] at hq ⊢
      show some (if s then Ordering.lt else Ordering.gt) = _
      cases s
      · have : sv t q < sv false 9218868437227405312 := by unfold sv; cases t <;> simp <;> omega
        show some Ordering.gt = some (compareOfLessAndEq _ _)
        unfold compareOfLessAndEq; rw [if_neg (by omega), if_neg (by omega)]
      · have : sv true 9218868437227405312 < sv t q := by unfold sv; cases t <;> simp <;> omega
        show some Ordering.lt = some (compareOfLessAndEq _ _)
        unfold compareOfLessAndEq; rw [if_pos this]
    · cases s <;> cases t <;> decide
theorem order_nan_left {a b : Nat} (h : (Ieee.double.read a).isNaN = true) : Ieee.double.order a b = none := by
  unfold Ieee.Format.order
  cases hd : Ieee.double.read a with
  | nan s t => rfl
  | infinity s => rw [hd] at h; simp [Ieee.Datum.isNaN] at h
  | number s m i => rw [hd] at h; simp [Ieee.Datum.isNaN] at h
theorem order_nan_right {a b : Nat} (h : (Ieee.double.read b).isNaN = true) : Ieee.double.order a b = none := by
  unfold Ieee.Format.order
  cases hd : Ieee.double.read b with
  | nan s t => cases Ieee.double.read a <;> rfl
  | infinity s => rw [hd] at h; simp [Ieee.Datum.isNaN] at h
  | number s m i => rw [hd] at h; simp [Ieee.Datum.isNaN] at h
/-- Every word of 64 bits is a sign and a rung. -/
theorem word_split (b : Nat) (hb : b < 18446744073709551616) : ∃ s r, b = Ieee.double.word s r ∧ r < 9223372036854775808 := by
  by_cases h : b < 9223372036854775808
  · exact ⟨false, b, rfl, h⟩
  · refine ⟨true, b - 9223372036854775808, ?_, by omega⟩
    unfold Ieee.Format.word
    rw [d_sign]
    simp; omega
theorem read_nan (s : Bool) (r : Nat) (h : Ieee.double.infRung < r) (h' : r < 9223372036854775808) : (Ieee.double.read (Ieee.double.word s r)).isNaN = true := by
  rw [d_inf] at h
  have hm : Ieee.double.word s r % Ieee.double.signWeight = r := by
    unfold Ieee.Format.word
    rw [d_sign]
    split <;> omega
  unfold Ieee.Format.read
  simp only [hm, d_binade, d_inf]
  rw [if_neg (by unfold E52; omega), if_neg (by omega), if_neg (by omega)]
  rfl
/-! ### Doubling, halving, scaling -/
theorem word_false (r : Nat) : Ieee.double.word false r = r := rfl
theorem read_two : Ieee.double.read 4611686018427387904 = .number false E52 (-51) := by
  rw [← word_false 4611686018427387904, read_finite false _ (by rw [d_inf]; omega)]
  decide
theorem read_big : Ieee.double.read 4841369599423283200 = .number false E52 0 := by
  rw [← word_false 4841369599423283200, read_finite false _ (by rw [d_inf]; omega)]
  decide
/-- The rung of twice the value. -/
def dbl (r : Nat) : Nat := if r < E52 then 2 * r else r + E52
theorem mul_two (s : Bool) (r : Nat) (h0 : 0 < r) (h : dbl r < Ieee.double.infRung) : Ieee.double.mul (Ieee.double.word s r) 4611686018427387904 = some (Ieee.double.word s (dbl r)) := by
  have hr : r < Ieee.double.infRung := by rw [d_inf] at h ⊢; unfold dbl at h; split at h <;> omega
  unfold Ieee.Format.mul
  rw [read_finite s r hr, read_two]
  show some (Ieee.double.write (.number (s ^^ false) (mg r * E52) (pl r + -51))) = _
  rw [Bool.xor_false]
  have e52 : E52 = 2 ^ 52 := by decide
  by_cases hl : r < E52
  · have e1 : mg r = r := by unfold mg; rw [if_pos hl]
    have e2 : pl r = -1074 := by unfold pl; rw [if_pos hl]
    have e3 : dbl r = 2 * r := by unfold dbl; rw [if_pos hl]
    have hmg : mg (2 * r) = 2 * r := by
      unfold mg
      split
      · rfl
      · unfold E52 at *; omega
    have hpl : pl (2 * r) = -1074 := by
      unfold pl
      split
      · rfl
      · have : 2 * r / E52 = 1 := by unfold E52 at *; omega
        rw [this]; rfl
    rw [e3] at h ⊢
    rw [write_exact s _ _ (2 * r) 51 h (Nat.mul_pos (mg_pos h0) (by decide))]
    left
    rw [e1, e2, hmg, hpl]
    refine ⟨?_, by omega⟩
    rw [e52, show (2 : Nat) ^ 52 = 2 * 2 ^ 51 from by decide, ← Nat.mul_assoc, Nat.mul_comm r 2]
  · have e3 : dbl r = r + E52 := by unfold dbl; rw [if_neg hl]
    rw [e3] at h ⊢
    have hmg : mg (r + E52) = mg r := by
      unfold mg
      rw [if_neg hl, if_neg (by omega), Nat.add_mod_right]
    have hpl : pl (r + E52) = pl r + 1 := by
      unfold pl
      rw [if_neg hl, if_neg (by omega), Nat.add_div_right _ (by decide)]
      have : 1 ≤ r / E52 := by unfold E52 at *; omega
      omega
    rw [write_exact s _ _ (r + E52) 52 h (Nat.mul_pos (mg_pos h0) (by decide))]
    left
    rw [hmg, hpl, e52]
    exact ⟨rfl, by omega⟩
theorem div_two (s : Bool) (r : Nat) (h2 : 2 * E52 ≤ r) (hr : r < Ieee.double.infRung) : Ieee.double.div (Ieee.double.word s r) 4611686018427387904 = some (Ieee.double.word s (r - E52)) := by
  unfold Ieee.Format.div
  rw [read_finite s r hr, read_two]
  have hn := mg_normal (r := r) (by omega)
  have hlog := log2_top hn.1 hn.2
  have e52 : E52 = 2 ^ 52 := by decide
  have hE : E52.log2 = 52 := log2_top (Nat.le_refl _) (by decide)
  have hq : (Ieee.Datum.number s (mg r) (pl r)).quotient 54 (.number false E52 (-51)) = some (.number s (mg r * 2 ^ 3) (pl r - 4)) := by
    unfold Ieee.Datum.quotient
    show some (Ieee.Datum.number (s ^^ false) (2 * ((mg r <<< (54 + E52.log2 - (mg r).log2)) / E52) + ((mg r <<< (54 + E52.log2 - (mg r).log2)) % E52 != 0).toNat) (pl r - (-51) - ((54 + E52.log2 - (mg r).log2 : Nat) : Int) - 1)) = _
    rw [hE, hlog, Bool.xor_false]
    have e3 : mg r <<< (54 + 52 - 52) = mg r * 2 ^ 2 * E52 := by
      rw [Nat.shiftLeft_eq, e52, Nat.mul_assoc, ← Nat.pow_add]
    rw [e3, Nat.mul_div_cancel _ (by decide), Nat.mul_mod_left]
    have a1 : 2 * (mg r * 2 ^ 2) + ((0 : Nat) != 0).toNat = mg r * 2 ^ 3 := by
      show 2 * (mg r * 4) + 0 = mg r * 8
      omega
    have a2 : pl r - (-51) - ((54 + 52 - 52 : Nat) : Int) - 1 = pl r - 4 := by
      show pl r - (-51) - 54 - 1 = pl r - 4
      omega
    rw [a1, a2]
  rw [show Ieee.double.fractionBits + 2 = 54 from rfl, hq]
  show some (Ieee.double.write _) = _
  have hmg : mg (r - E52) = mg r := by
    unfold mg
    rw [if_neg (by omega), if_neg (by omega)]
    have : (r - E52) % E52 = r % E52 := by unfold E52 at *; omega
    rw [this]
  have hpl : pl (r - E52) = pl r - 1 := by
    unfold pl
    rw [if_neg (by omega), if_neg (by omega)]
    have : (r - E52) / E52 = r / E52 - 1 := by unfold E52 at *; omega
    have h' : 2 ≤ r / E52 := by unfold E52 at *; omega
    rw [this]; omega
  rw [write_exact s _ _ (r - E52) 3 (by omega) (Nat.mul_pos (mg_pos (by omega)) (by decide))]
  left
  rw [hmg, hpl]
  exact ⟨rfl, by omega⟩
/-- The rung of a subnormal number times 2 to the 52. -/
def lift52 (r : Nat) : Nat := (r.log2 + 1) * E52 + (r * 2 ^ (52 - r.log2) - E52)
theorem sub_bounds {r : Nat} (h0 : 0 < r) (hl : r < E52) : E52 ≤ r * 2 ^ (52 - r.log2) ∧ r * 2 ^ (52 - r.log2) < 2 * E52 := by
  have h1 := Nat.log2_self_le (Nat.ne_of_gt h0)
  have h2 := Nat.lt_log2_self (n := r)
  have h3 := log2_low hl h0
  have e1 : E52 = 2 ^ r.log2 * 2 ^ (52 - r.log2) := by rw [← Nat.pow_add, show r.log2 + (52 - r.log2) = 52 from by omega]
  have e2 : 2 * E52 = 2 ^ (r.log2 + 1) * 2 ^ (52 - r.log2) := by rw [← Nat.pow_add, show r.log2 + 1 + (52 - r.log2) = 53 from by omega]; decide
  constructor
  · rw [e1]; exact Nat.mul_le_mul_right _ h1
  · rw [e2]; exact (Nat.mul_lt_mul_right (pow_pos2 _)).2 h2
theorem lift52_facts {r : Nat} (h0 : 0 < r) (hl : r < E52) : mg (lift52 r) = r * 2 ^ (52 - r.log2) ∧ pl (lift52 r) = -1074 + r.log2 ∧ lift52 r / E52 = r.log2 + 1 ∧ lift52 r % E52 = r * 2 ^ (52 - r.log2) - E52 ∧ E52 ≤ lift52 r ∧ lift52 r < 60 * E52 := by
  obtain ⟨b1, b2⟩ := sub_bounds h0 hl
  have h3 := log2_low hl h0
  have hlf : r * 2 ^ (52 - r.log2) - E52 < E52 := by omega
  have ed : lift52 r / E52 = r.log2 + 1 := by
    unfold lift52
    rw [Nat.mul_comm, Nat.mul_add_div (by decide), Nat.div_eq_of_lt hlf]
  have em : lift52 r % E52 = r * 2 ^ (52 - r.log2) - E52 := by
    unfold lift52
    rw [Nat.mul_comm, Nat.mul_add_mod, Nat.mod_eq_of_lt hlf]
  have hge : E52 ≤ lift52 r := by unfold lift52; rw [Nat.add_mul]; omega
  refine ⟨?_, ?_, ed, em, hge, ?_⟩
  · unfold mg; rw [if_neg (by omega), em]; omega
  · unfold pl; rw [if_neg (by omega), ed]; omega
  · unfold lift52
    have : (r.log2 + 1) * E52 ≤ 52 * E52 := Nat.mul_le_mul_right _ (by omega)
    omega
theorem mul_big (s : Bool) (r : Nat) (h0 : 0 < r) (hl : r < E52) : Ieee.double.mul (Ieee.double.word s r) 4841369599423283200 = some (Ieee.double.word s (lift52 r)) := by
  obtain ⟨f1, f2, _, _, _, f6⟩ := lift52_facts h0 hl
  unfold Ieee.Format.mul
  rw [read_finite s r (by rw [d_inf]; unfold E52 at hl; omega), read_big]
  show some (Ieee.double.write (.number (s ^^ false) (mg r * E52) (pl r + 0))) = _
  rw [Bool.xor_false]
  have e1 : mg r = r := by unfold mg; rw [if_pos hl]
  have e2 : pl r = -1074 := by unfold pl; rw [if_pos hl]
  have h3 := log2_low hl h0
  rw [write_exact s _ _ (lift52 r) r.log2 (by rw [d_inf]; unfold E52 at f6; omega) (Nat.mul_pos (mg_pos h0) (by decide))]
  left
  rw [f1, f2, e1, e2]
  refine ⟨?_, by omega⟩
  rw [Nat.mul_assoc, ← Nat.pow_add, show 52 - r.log2 + r.log2 = 52 from by omega]
end Go.Proofs.YtdkccihoecpcaaaGreatFmt
