/- Shortest decimal digits of a float, as the library computes them, over plain numbers: at least one digit, and the exact digits of a small whole number. Conditions: none. -/
import GoSem.PinnedTables
import Derived.Lib.Hide
namespace Go.Proofs.YtdkccihoecpcaaaGreatFmt
open Go
def l10 (x : Int) : Int := x * 78913 / 262144
def l2t (x : Int) : Int := x * 108853 / 32768
def skw (x : Int) : Int := (x * 631305 - 261663) / 2097152
def tHi (i : Nat) : Nat := (Pinned.pow10Rows.getD i (0, 0)).1
def tLo (i : Nat) : Nat := (Pinned.pow10Rows.getD i (0, 0)).2
/-- The scaled number, its last bit sticky. -/
def usc (x hi lo s : Nat) : Nat :=
  if x * hi / 18446744073709551616 / 2 ^ s * 2 ^ s = x * hi / 18446744073709551616 then
    ((if x * hi % 18446744073709551616 < x * lo / 18446744073709551616 then x * hi / 18446744073709551616 - 1 else x * hi / 18446744073709551616) / 2 ^ s) ||| (if 1 < (x * hi % 18446744073709551616 + 18446744073709551616 - x * lo / 18446744073709551616) % 18446744073709551616 then 1 else 0)
  else (x * hi / 18446744073709551616 / 2 ^ s) ||| 1
/-- The exponent of ten, and the two bounds. -/
def sP (m : Nat) (e : Int) : Int := if m = 9223372036854775808 ∧ -1085 < e then -skw (e + 11) else if -1085 ≤ e then -l10 (e + 11) else -l10 (-1074)
def sZ (e : Int) : Nat := if -1085 ≤ e then 11 else (-1074 - e).toNat
def sMin (m : Nat) (e : Int) : Nat := if m = 9223372036854775808 ∧ -1085 < e then m - 512 else m - 2 ^ (sZ e - 1)
def sMax (m : Nat) (e : Int) : Nat := m + 2 ^ (sZ e - 1)
def sOdd (m : Nat) (e : Int) : Nat := m / 2 ^ sZ e % 2
def sS (m : Nat) (e : Int) : Nat := (-(e + l2t (sP m e) + 3)).toNat
def sI (m : Nat) (e : Int) : Nat := (sP m e + 348).toNat
def dMin (m : Nat) (e : Int) : Nat := (usc (sMin m e) (tHi (sI m e)) (tLo (sI m e)) (sS m e) + sOdd m e + 3) / 4
def dMax (m : Nat) (e : Int) : Nat := (usc (sMax m e) (tHi (sI m e)) (tLo (sI m e)) (sS m e) - sOdd m e) / 4
def dMid (m : Nat) (e : Int) : Nat := (usc m (tHi (sI m e)) (tLo (sI m e)) (sS m e) + 1 + usc m (tHi (sI m e)) (tLo (sI m e)) (sS m e) / 4 % 2) / 4
def shD (m : Nat) (e : Int) : Nat := if dMin m e ≤ dMax m e / 10 * 10 then dMax m e / 10 else if dMin m e < dMax m e then dMid m e else dMin m e
def shP (m : Nat) (e : Int) : Int := if dMin m e ≤ dMax m e / 10 * 10 then -(sP m e - 1) else -sP m e
/-! ### Bounds -/
structure InR (m : Nat) (e : Int) : Prop where
  lo : 9223372036854775808 ≤ m
  hi : m < 18446744073709551616
  e1 : -1137 ≤ e
  e2 : e ≤ 960
theorem sP_bd {m : Nat} {e : Int} (h : InR m e) : -292 ≤ sP m e ∧ sP m e ≤ 324 ∧ 5 ≤ -(e + l2t (sP m e) + 3) ∧ -(e + l2t (sP m e) + 3) ≤ 58 := by
  have h1 := h.e1
  have h2 := h.e2
  unfold sP l2t
  split
  · unfold skw
    omega
  · split
    · unfold l10
      omega
    · unfold l10
      omega
theorem sS_bd {m : Nat} {e : Int} (h : InR m e) : 5 ≤ sS m e ∧ sS m e ≤ 58 ∧ ((sS m e : Nat) : Int) = -(e + l2t (sP m e) + 3) := by
  have := sP_bd h
  unfold sS
  omega
theorem sI_bd {m : Nat} {e : Int} (h : InR m e) : sI m e < 696 ∧ ((sI m e : Nat) : Int) = sP m e + 348 := by
  have := sP_bd h
  unfold sI
  omega
theorem sZ_bd {e : Int} (h : -1137 ≤ e) : 11 ≤ sZ e ∧ sZ e ≤ 63 := by
  unfold sZ
  split <;> omega
theorem tHi_all : ∀ i : Fin 696, 9223372036854775808 ≤ tHi i.val ∧ tHi i.val < 18446744073709551616 ∧ tLo i.val < 18446744073709551616 := by decide +kernel
theorem tHi_bd {i : Nat} (h : i < 696) : 9223372036854775808 ≤ tHi i ∧ tHi i < 18446744073709551616 ∧ tLo i < 18446744073709551616 := tHi_all ⟨i, h⟩
theorem or_one (a : Nat) : a ||| 1 = a / 2 * 2 + 1 := by
  apply Nat.eq_of_testBit_eq
  intro j
  rw [Nat.testBit_or]
  cases j with
  | zero => simp [Nat.testBit_zero]
  | succ j =>
    rw [Nat.testBit_succ, Nat.testBit_succ, Nat.testBit_succ]
    have e1 : 1 / 2 = 0 := by decide
    have e2 : (a / 2 * 2 + 1) / 2 = a / 2 := by omega
    rw [e1, e2]
    simp
/-- The scaled number, between two plain quotients. -/
theorem usc_bd (x hi lo s : Nat) (hx : x < 18446744073709551616) (hlo : lo < 18446744073709551616) (h1 : 1 ≤ x * hi / 18446744073709551616) : x * hi / 18446744073709551616 / 2 ^ s - 1 ≤ usc x hi lo s ∧ 1 ≤ usc x hi lo s ∧ usc x hi lo s ≤ (x * hi / 18446744073709551616 / 2 ^ s) / 2 * 2 + 1 := by
  have hp : 0 < 2 ^ s := Nat.two_pow_pos s
  have hm2 : x * lo / 18446744073709551616 ≤ 18446744073709551616 - 2 := by
    have h2 : x * lo ≤ (18446744073709551616 - 1) * (18446744073709551616 - 1) := Nat.mul_le_mul (by omega) (by omega)
    have h3 : (18446744073709551616 - 1) * (18446744073709551616 - 1) / 18446744073709551616 = 18446744073709551616 - 2 := by decide
    rw [← h3]
    exact Nat.div_le_div_right h2
  unfold usc
  generalize hq : x * hi / 18446744073709551616 = q at *
  have hmid : x * hi % 18446744073709551616 < 18446744073709551616 := Nat.mod_lt _ (by decide)
  generalize x * hi % 18446744073709551616 = mid at *
  generalize x * lo / 18446744073709551616 = mid2 at *
  split
  · rename_i he
    by_cases hb : mid < mid2
    · rw [if_pos hb]
      have hk : 1 ≤ q / 2 ^ s := by
        rcases Nat.eq_zero_or_pos (q / 2 ^ s) with e | e
        · rw [e] at he; omega
        · exact e
      have hd : (q - 1) / 2 ^ s = q / 2 ^ s - 1 := by
        obtain ⟨t, ht⟩ : ∃ t, q / 2 ^ s = t + 1 := ⟨q / 2 ^ s - 1, by omega⟩
        rw [ht] at he ⊢
        have : q - 1 = 2 ^ s * t + (2 ^ s - 1) := by rw [← he, Nat.add_mul, Nat.mul_comm t]; omega
        rw [this, Nat.mul_add_div hp, Nat.div_eq_of_lt (by omega)]
        omega
      have hm : 1 < (mid + 18446744073709551616 - mid2) % 18446744073709551616 := by
        rw [Nat.mod_eq_of_lt (by omega)]
        omega
      rw [if_pos hm, hd, or_one]
      omega
    · rw [if_neg hb]
      have hk : 1 ≤ q / 2 ^ s := by
        rcases Nat.eq_zero_or_pos (q / 2 ^ s) with e | e
        · rw [e] at he; omega
        · exact e
      split
      · rw [or_one]; omega
      · rw [Nat.or_zero]; omega
  · rw [or_one]
    omega
theorem quot_lt (x hi : Nat) (hx : x < 18446744073709551616) (hh : hi < 18446744073709551616) : x * hi / 18446744073709551616 < 18446744073709551616 := by
  rw [Nat.div_lt_iff_lt_mul (by decide)]
  exact Nat.mul_lt_mul_of_lt_of_le hx (Nat.le_of_lt hh) (by decide)
theorem usc_top (x hi lo s : Nat) (hx : x < 18446744073709551616) (hh : hi < 18446744073709551616) (hlo : lo < 18446744073709551616) (h1 : 1 ≤ x * hi / 18446744073709551616) (hs : 5 ≤ s) : usc x hi lo s ≤ 576460752303423488 := by
  have h2 := (usc_bd x hi lo s hx hlo h1).2.2
  have h3 := quot_lt x hi hx hh
  have h4 : x * hi / 18446744073709551616 / 2 ^ s ≤ x * hi / 18446744073709551616 / 32 := Nat.div_le_div_left (by have := Nat.pow_le_pow_right (show 0 < 2 by decide) hs; simpa using this) (by decide)
  omega
/-- What goes into the scaling. -/
structure Good (m : Nat) (e : Int) : Prop where
  r : InR m e
  dv : m % 2 ^ sZ e = 0
theorem good_max {m : Nat} {e : Int} (h : Good m e) : sMax m e < 18446744073709551616 := by
  have hz := sZ_bd h.r.e1
  have hm := h.r.hi
  have hd := h.dv
  unfold sMax
  obtain ⟨q, hq⟩ : ∃ q, m = 2 ^ sZ e * q := ⟨m / 2 ^ sZ e, by have := Nat.div_add_mod m (2 ^ sZ e); omega⟩
  obtain ⟨c, hc⟩ : ∃ c : Nat, (18446744073709551616 : Nat) = 2 ^ sZ e * c := ⟨2 ^ (64 - sZ e), by rw [← Nat.pow_add, show sZ e + (64 - sZ e) = 64 from by omega]⟩
  have hp := Nat.two_pow_pos (sZ e)
  have hlt : q < c := by rw [hq, hc] at hm; exact Nat.lt_of_mul_lt_mul_left hm
  have h2 : 2 ^ sZ e = 2 * 2 ^ (sZ e - 1) := by
    obtain ⟨z, hz'⟩ : ∃ z, sZ e = z + 1 := ⟨sZ e - 1, by omega⟩
    rw [hz', Nat.add_sub_cancel, Nat.pow_succ, Nat.mul_comm]
  have h3 : 2 ^ sZ e * (q + 1) ≤ 2 ^ sZ e * c := Nat.mul_le_mul_left _ hlt
  rw [Nat.mul_add, ← hq, ← hc] at h3
  have h4 := Nat.two_pow_pos (sZ e - 1)
  omega
theorem good_min {m : Nat} {e : Int} (h : Good m e) : 4611686018427387904 ≤ sMin m e ∧ sMin m e < 18446744073709551616 := by
  have hz := sZ_bd h.r.e1
  have hm := h.r.hi
  have hl := h.r.lo
  have h2 : 2 ^ (sZ e - 1) ≤ 2 ^ 62 := Nat.pow_le_pow_right (by decide) (by omega)
  have e62 : (2 : Nat) ^ 62 = 4611686018427387904 := by decide
  unfold sMin
  generalize 2 ^ (sZ e - 1) = g at *
  split <;> omega
theorem quot_ge (x hi : Nat) (hx : 4611686018427387904 ≤ x) (hh : 9223372036854775808 ≤ hi) : 1 ≤ x * hi / 18446744073709551616 := by
  rw [Nat.le_div_iff_mul_le (by decide)]
  have h := Nat.mul_le_mul hx hh
  have e : 1 * 18446744073709551616 ≤ 4611686018427387904 * 9223372036854775808 := by decide
  omega
/-- There is at least one digit, and the digits fit a word. -/
theorem shD_bd {m : Nat} {e : Int} (h : Good m e) : 1 ≤ shD m e ∧ shD m e < 1152921504606846976 := by
  obtain ⟨s1, s2, _⟩ := sS_bd h.r
  obtain ⟨i1, _⟩ := sI_bd h.r
  obtain ⟨t1, t2, t3⟩ := tHi_bd i1
  obtain ⟨n1, n2⟩ := good_min h
  have x2 := good_max h
  have hm := h.r.hi
  have hl := h.r.lo
  have x1 : 4611686018427387904 ≤ sMax m e := by unfold sMax; have := Nat.two_pow_pos (sZ e - 1); omega
  have a1 := usc_bd (sMin m e) (tHi (sI m e)) (tLo (sI m e)) (sS m e) n2 t3 (quot_ge _ _ n1 t1)
  have a2 := usc_top (sMin m e) (tHi (sI m e)) (tLo (sI m e)) (sS m e) n2 t2 t3 (quot_ge _ _ n1 t1) s1
  have b1 := usc_bd (sMax m e) (tHi (sI m e)) (tLo (sI m e)) (sS m e) x2 t3 (quot_ge _ _ x1 t1)
  have b2 := usc_top (sMax m e) (tHi (sI m e)) (tLo (sI m e)) (sS m e) x2 t2 t3 (quot_ge _ _ x1 t1) s1
  have c1 := usc_bd m (tHi (sI m e)) (tLo (sI m e)) (sS m e) hm t3 (quot_ge _ _ (by omega) t1)
  have c2 := usc_top m (tHi (sI m e)) (tLo (sI m e)) (sS m e) hm t2 t3 (quot_ge _ _ (by omega) t1) s1
  have ho : sOdd m e ≤ 1 := by unfold sOdd; omega
  have hmid : dMin m e < dMax m e → 1 ≤ dMid m e := by
    intro hlt
    have d1 : 1 ≤ dMin m e := by unfold dMin; omega
    have d2 : 2 ≤ dMax m e := by omega
    unfold dMax at d2
    have k1 : 8 ≤ sMax m e * tHi (sI m e) / 18446744073709551616 / 2 ^ sS m e := by omega
    have hp : 0 < 2 ^ sS m e := Nat.two_pow_pos _
    rw [Nat.le_div_iff_mul_le hp, Nat.le_div_iff_mul_le (by decide)] at k1
    have k2 : sMax m e * tHi (sI m e) ≤ (2 * m) * tHi (sI m e) := Nat.mul_le_mul_right _ (by omega)
    have k3 : 4 ≤ m * tHi (sI m e) / 18446744073709551616 / 2 ^ sS m e := by
      rw [Nat.le_div_iff_mul_le hp, Nat.le_div_iff_mul_le (by decide)]
      rw [Nat.mul_assoc 2] at k2
      rw [Nat.mul_assoc] at k1 ⊢
      omega
    unfold dMid
    omega
  unfold shD
  split
  · have d1 : 1 ≤ dMin m e := by unfold dMin; omega
    have d3 : dMax m e ≤ 576460752303423488 := by unfold dMax; omega
    omega
  · split
    · rename_i hlt
      have := hmid hlt
      have d3 : dMid m e < 1152921504606846976 := by unfold dMid; omega
      exact ⟨this, d3⟩
    · have d1 : 1 ≤ dMin m e := by unfold dMin; omega
      have d3 : dMin m e < 1152921504606846976 := by unfold dMin; omega
      exact ⟨d1, d3⟩
theorem shP_bd {m : Nat} {e : Int} (h : Good m e) : -324 ≤ shP m e ∧ shP m e ≤ 293 := by
  have := sP_bd h.r
  unfold shP
  split <;> omega
end Go.Proofs.YtdkccihoecpcaaaGreatFmt
