/- The decimal text of a float over plain numbers: with a point, with an exponent, and as the encoder writes it. Conditions: none. -/
import Derived.Test.YtdkccihoecpcaaaGreatFmtShortP
import Derived.Test.YtdkccihoecpcaaaGreatFmtFloat
import Derived.Lib.ItoaLen
import Derived.Lib.ItoaMem
namespace Go.Proofs.YtdkccihoecpcaaaGreatFmt
open Go
/-- The digits without the zeros at their end. -/
def trim (l : List UInt8) : List UInt8 := (l.reverse.dropWhile (· == 48)).reverse
def sgn (neg : Bool) : List UInt8 := if neg then [45] else []
def fmF (neg : Bool) (D : List UInt8) (dp : Int) : List UInt8 :=
  sgn neg ++ (if 0 < dp then D.take dp.toNat ++ List.replicate (dp.toNat - D.length) 48 else [48]) ++ (if dp < D.length then 46 :: (List.replicate (-dp).toNat 48 ++ D.drop dp.toNat) else [])
def exT (x : Int) : List UInt8 :=
  (if x < 0 then 45 else 43) :: (if x.natAbs < 10 then [48, UInt8.ofNat (48 + x.natAbs)] else if x.natAbs < 100 then [UInt8.ofNat (48 + x.natAbs / 10), UInt8.ofNat (48 + x.natAbs % 10)] else [UInt8.ofNat (48 + x.natAbs / 100), UInt8.ofNat (48 + x.natAbs / 10 % 10), UInt8.ofNat (48 + x.natAbs % 10)])
def fmE (neg : Bool) (D : List UInt8) (dp : Int) : List UInt8 := sgn neg ++ [D.headD 48] ++ (if 1 < D.length then 46 :: D.drop 1 else []) ++ [101] ++ exT (dp - 1)
/-- How many bits a number has. -/
def bl (n : Nat) : Nat := if n = 0 then 0 else n.log2 + 1
/-- The mantissa moved up, and the exponent that belongs to it. -/
def fM (r : Nat) : Nat := mg r * 2 ^ (64 - bl (mg r))
def fE (r : Nat) : Int := pl r - ((64 - bl (mg r) : Nat) : Int)
def fD (r : Nat) : List UInt8 := trim (Lib.decDigits (shD (fM r) (fE r)))
def fP (r : Nat) : Int := ((Lib.decDigits (shD (fM r) (fE r))).length : Int) + shP (fM r) (fE r)
/-- A finite float's text, format f or e. -/
def ftF (s : Bool) (r : Nat) : List UInt8 := if r = 0 then sgn s ++ [48] else fmF s (fD r) (fP r)
def ftE (s : Bool) (r : Nat) : List UInt8 := fmE s (fD r) (fP r)
theorem mg_bd {r : Nat} (h0 : 0 < r) : 0 < mg r ∧ mg r < 2 * E52 := by
  refine ⟨mg_pos h0, ?_⟩
  unfold mg
  split
  · omega
  · have := Nat.mod_lt r (show 0 < E52 by decide)
    omega
theorem bl_bd {r : Nat} (h0 : 0 < r) : 1 ≤ bl (mg r) ∧ bl (mg r) ≤ 53 ∧ 2 ^ (bl (mg r) - 1) ≤ mg r ∧ mg r < 2 ^ bl (mg r) := by
  obtain ⟨h1, h2⟩ := mg_bd h0
  have hb : bl (mg r) = (mg r).log2 + 1 := by unfold bl; rw [if_neg (by omega)]
  have h3 := Nat.log2_self_le (Nat.ne_of_gt h1)
  have h4 := Nat.lt_log2_self (n := mg r)
  have h5 : (mg r).log2 < 53 := by
    rw [Nat.log2_lt (by omega)]
    have : (2 : Nat) ^ 53 = 2 * E52 := by decide
    omega
  rw [hb]
  exact ⟨by omega, by omega, by rw [Nat.add_sub_cancel]; exact h3, h4⟩
theorem pl_bd {r : Nat} (h : r < Ieee.double.infRung) : -1074 ≤ pl r ∧ pl r ≤ 971 := by
  rw [d_inf] at h
  unfold pl
  split
  · omega
  · unfold E52 at *; omega
theorem fM_good {r : Nat} (h0 : 0 < r) (h : r < Ieee.double.infRung) : Good (fM r) (fE r) := by
  obtain ⟨b1, b2, b3, b4⟩ := bl_bd h0
  obtain ⟨p1, p2⟩ := pl_bd h
  have e63 : (9223372036854775808 : Nat) = 2 ^ (bl (mg r) - 1) * 2 ^ (64 - bl (mg r)) := by rw [← Nat.pow_add, show bl (mg r) - 1 + (64 - bl (mg r)) = 63 from by omega]
  have e64 : (18446744073709551616 : Nat) = 2 ^ bl (mg r) * 2 ^ (64 - bl (mg r)) := by rw [← Nat.pow_add, show bl (mg r) + (64 - bl (mg r)) = 64 from by omega]
  have hp := Nat.two_pow_pos (64 - bl (mg r))
  refine ⟨⟨?_, ?_, ?_, ?_⟩, ?_⟩
  · unfold fM; rw [e63]; exact Nat.mul_le_mul_right _ b3
  · unfold fM; rw [e64]; exact Nat.mul_lt_mul_of_pos_right b4 hp
  · unfold fE; omega
  · by_cases hl : r < E52
    · have : pl r = -1074 := by unfold pl; rw [if_pos hl]
      unfold fE; omega
    · have hn := mg_normal (r := r) (by omega)
      have : bl (mg r) = 53 := by unfold bl; rw [if_neg (by omega), log2_top hn.1 hn.2]
      unfold fE; omega
  · have hz : sZ (fE r) ≤ 64 - bl (mg r) := by
      unfold sZ
      split
      · omega
      · rename_i hlt
        by_cases hl : r < E52
        · have : pl r = -1074 := by unfold pl; rw [if_pos hl]
          unfold fE; omega
        · have hn := mg_normal (r := r) (by omega)
          have : bl (mg r) = 53 := by unfold bl; rw [if_neg (by omega), log2_top hn.1 hn.2]
          unfold fE at hlt; omega
    unfold fM
    rw [show 64 - bl (mg r) = sZ (fE r) + (64 - bl (mg r) - sZ (fE r)) from by omega, Nat.pow_add, ← Nat.mul_assoc, Nat.mul_right_comm]
    exact Nat.mul_mod_left _ _
end Go.Proofs.YtdkccihoecpcaaaGreatFmt
