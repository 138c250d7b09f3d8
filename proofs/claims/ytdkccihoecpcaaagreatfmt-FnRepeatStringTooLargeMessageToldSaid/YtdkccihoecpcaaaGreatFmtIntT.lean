/- The text of a whole float below 2 to the 53 is its decimal numeral. Conditions: none. -/
import Derived.Test.YtdkccihoecpcaaaGreatFmtIntP
import Derived.Test.YtdkccihoecpcaaaGreatFmtTextP
import Derived.Test.YtdkccihoecpcaaaGreatFmtModfPlain
namespace Go.Proofs.YtdkccihoecpcaaaGreatFmt
open Go
theorem dec_ten (m : Nat) (h : 1 ≤ m) : Lib.decDigits (m * 10) = Lib.decDigits m ++ [48] := by
  rw [Lib.decDigits]
  rw [dif_neg (by omega), show m * 10 / 10 = m from by omega, show m * 10 % 10 = 0 from by omega]
  rfl
theorem dec_pow (m q : Nat) (h : 1 ≤ m) : Lib.decDigits (m * 10 ^ q) = Lib.decDigits m ++ List.replicate q 48 := by
  induction q with
  | zero => simp
  | succ q ih => rw [Nat.pow_succ, ← Nat.mul_assoc, dec_ten _ (Nat.mul_pos h (Nat.pow_pos (by decide))), ih, List.append_assoc, List.replicate_succ']
theorem trim_zero (l : List UInt8) : trim (l ++ [48]) = trim l := by
  unfold trim
  rw [List.reverse_append]
  simp
theorem trim_zeros (l : List UInt8) (q : Nat) : trim (l ++ List.replicate q 48) = trim l := by
  induction q with
  | zero => simp
  | succ q ih => rw [List.replicate_succ', ← List.append_assoc, trim_zero, ih]
theorem dw_len (l : List UInt8) : (l.dropWhile (· == (48 : UInt8))).length ≤ l.length := (List.dropWhile_sublist _).length_le
theorem drop_while_fill : ∀ (l : List UInt8), List.replicate (l.length - (l.dropWhile (· == 48)).length) (48 : UInt8) ++ l.dropWhile (· == 48) = l
  | [] => rfl
  | a :: l => by
    by_cases h : (a == 48) = true
    · have ih := drop_while_fill l
      have ha : a = 48 := by simpa using h
      have hl := dw_len l
      rw [List.dropWhile_cons_of_pos (p := fun x => x == 48) h, List.length_cons, Nat.succ_sub hl, List.replicate_succ, List.cons_append, ih, ha]
    · rw [List.dropWhile_cons_of_neg (p := fun x => x == 48) h, Nat.sub_self]
      rfl
theorem trim_fill (l : List UInt8) : trim l ++ List.replicate (l.length - (trim l).length) 48 = l := by
  have h := drop_while_fill l.reverse
  have h2 := congrArg List.reverse h
  rw [List.reverse_append, List.reverse_reverse, List.reverse_replicate] at h2
  unfold trim
  rw [List.length_reverse]
  rw [List.length_reverse] at h2
  exact h2
theorem trim_len (l : List UInt8) : (trim l).length ≤ l.length := by
  unfold trim
  rw [List.length_reverse]
  have := dw_len l.reverse
  rwa [List.length_reverse] at this
theorem dec_len_pos (n : Nat) : 1 ≤ (Lib.decDigits n).length := by
  rw [Lib.decDigits]
  split
  · simp
  · rw [List.length_append]; simp
/-- A float whose value is the whole number n: its mantissa and its place. -/
theorem whole_parts (r n : Nat) (h0 : 0 < n) (hn : n < 9007199254740992) (hv : val r = n * U) : fM r = n * 2 ^ (64 - (n.log2 + 1)) ∧ fE r = ((n.log2 + 1 : Nat) : Int) - 64 := by
  have hnl : ¬ r < E52 := by
    intro h
    rw [val_low h] at hv
    have e52 : E52 = 2 ^ 52 := by decide
    have h52 : (2 : Nat) ^ 52 ≤ 2 ^ place := Nat.pow_le_pow_right (by decide) (by rw [place_eq]; omega)
    have : 1 * U ≤ n * U := Nat.mul_le_mul_right _ h0
    rw [U_eq] at this hv
    omega
  have hmn := mg_normal (r := r) (by omega)
  have hlog := log2_top hmn.1 hmn.2
  have hpl := pl_ge r
  have hk : n.log2 < 53 := by
    rw [Nat.log2_lt (by omega)]
    have : (2 : Nat) ^ 53 = 9007199254740992 := by decide
    omega
  have hv' : mg r * 2 ^ (pl r + 1074).toNat = n * 2 ^ place := by rw [← U_eq]; exact hv
  have hl2 : (mg r).log2 + (pl r + 1074).toNat = n.log2 + place := by
    rw [← log2_mul_pow (by unfold E52 at hmn; omega), ← log2_mul_pow h0]
    exact congrArg Nat.log2 hv'
  rw [hlog, place_eq] at hl2
  have hp : pl r = (n.log2 : Int) - 52 := by omega
  have hm : mg r = n * 2 ^ (52 - n.log2) := by
    have h2 : mg r * 2 ^ (pl r + 1074).toNat = n * 2 ^ (52 - n.log2) * 2 ^ (pl r + 1074).toNat := by
      rw [Nat.mul_assoc, ← Nat.pow_add, show 52 - n.log2 + (pl r + 1074).toNat = place from by rw [place_eq]; omega]
      exact hv'
    exact Nat.eq_of_mul_eq_mul_right (Nat.two_pow_pos _) h2
  have hbl : bl (mg r) = 53 := by unfold bl; rw [if_neg (by unfold E52 at hmn; omega), hlog]
  constructor
  · unfold fM
    rw [hbl, hm, Nat.mul_assoc, ← Nat.pow_add]
    congr 2
    omega
  · unfold fE
    rw [hbl, hp]
    omega
theorem fmF_whole (s : Bool) (l D : List UInt8) (dp : Int) (hD : D = trim l) (hdp : dp = (l.length : Int)) (hl : 1 ≤ l.length) : fmF s D dp = sgn s ++ l := by
  subst hD hdp
  have hlen := trim_len l
  unfold fmF
  rw [if_pos (by omega), if_neg (by omega), Int.toNat_natCast, List.take_of_length_le hlen, trim_fill, List.append_nil]
theorem ftF_whole (s : Bool) (r n : Nat) (h0 : 0 < n) (hn : n < 9007199254740992) (hv : val r = n * U) : ftF s r = sgn s ++ Lib.decDigits n := by
  obtain ⟨e1, e2⟩ := whole_parts r n h0 hn hv
  have h1 := Nat.log2_self_le (Nat.ne_of_gt h0)
  have h2 := Nat.lt_log2_self (n := n)
  have hk : n.log2 < 53 := by
    rw [Nat.log2_lt (by omega)]
    have : (2 : Nat) ^ 53 = 9007199254740992 := by decide
    omega
  have hr0 : r ≠ 0 := by
    intro e
    rw [e, val_zero] at hv
    have := Nat.mul_pos h0 U_pos
    omega
  unfold ftF
  rw [if_neg hr0]
  have key := int_short n (n.log2 + 1) (by rw [Nat.add_sub_cancel]; exact h1) h2 (by omega) (by omega)
  rw [← e1, ← e2] at key
  rcases key with ⟨q, _, hd, hp⟩ | ⟨hd, hp⟩
  · refine fmF_whole s (Lib.decDigits n) _ _ ?_ ?_ (dec_len_pos n)
    · unfold fD
      rw [hd, dec_pow n q h0, trim_zeros]
    · unfold fP
      rw [hd, dec_pow n q h0, hp, List.length_append, List.length_replicate]
      push_cast
      omega
  · have hd1 : 1 ≤ shD (fM r) (fE r) := by omega
    have e : Lib.decDigits n = Lib.decDigits (shD (fM r) (fE r)) ++ [48] := by rw [← dec_ten _ hd1, hd]
    refine fmF_whole s (Lib.decDigits n) _ _ ?_ ?_ (dec_len_pos n)
    · unfold fD
      rw [e, trim_zero]
    · unfold fP
      rw [hp, e, List.length_append, List.length_singleton]
      push_cast
      rfl
end Go.Proofs.YtdkccihoecpcaaaGreatFmt
