/- Decimal numerals: distinct numbers have distinct numerals, and numerals of one length stand in the order of their numbers. Conditions: none. -/
import Derived.Lib.ItoaNum
namespace Go.Proofs.YtfmjeacjfnlhiaaGreatFmt
open Go
theorem dd_eq (u : Nat) : Lib.decDigits u = if u < 10 then [UInt8.ofNat (48 + u)] else Lib.decDigits (u / 10) ++ [UInt8.ofNat (48 + u % 10)] := by
  rw [Lib.decDigits]
  split <;> rfl
theorem byte_inj {a b : Nat} (ha : a < 10) (hb : b < 10) (h : UInt8.ofNat (48 + a) = UInt8.ofNat (48 + b)) : a = b := by
  have := congrArg UInt8.toNat h
  simp at this
  omega
theorem byte_lt {a b : Nat} (h : a < b) (hb : b < 10) : UInt8.ofNat (48 + a) < UInt8.ofNat (48 + b) := by
  rw [UInt8.lt_iff_toNat_lt]
  simp
  omega
theorem dd_pos (u : Nat) : 1 ≤ (Lib.decDigits u).length := by rw [Lib.decDigits_length]; exact Lib.nDigits_pos u
theorem decDigits_inj (a : Nat) : ∀ b, Lib.decDigits a = Lib.decDigits b → a = b := by
  induction a using Nat.strongRecOn with
  | _ a ih =>
    intro b h
    rw [dd_eq a, dd_eq b] at h
    by_cases ha : a < 10
    · by_cases hb : b < 10
      · rw [if_pos ha, if_pos hb] at h
        exact byte_inj ha hb (by simpa using h)
      · rw [if_pos ha, if_neg hb] at h
        have h1 := congrArg List.length h
        have h2 := dd_pos (b / 10)
        rw [List.length_append] at h1
        simp only [List.length_cons, List.length_nil] at h1
        omega
    · by_cases hb : b < 10
      · rw [if_neg ha, if_pos hb] at h
        have h1 := congrArg List.length h
        have h2 := dd_pos (a / 10)
        rw [List.length_append] at h1
        simp only [List.length_cons, List.length_nil] at h1
        omega
      · rw [if_neg ha, if_neg hb] at h
        obtain ⟨h1, h2⟩ := List.append_inj' h rfl
        have h3 := ih (a / 10) (by omega) (b / 10) h1
        have h4 := byte_inj (Nat.mod_lt a (by omega)) (Nat.mod_lt b (by omega)) (by simpa using h2)
        omega
theorem lex_append {x y p q : List UInt8} (h : x < y) (hl : x.length = y.length) : x ++ p < y ++ q := by
  induction x generalizing y with
  | nil =>
    cases y with
    | nil => exact absurd h (List.lt_irrefl _)
    | cons b y => simp at hl
  | cons a x ih =>
    cases y with
    | nil => simp at hl
    | cons b y =>
      rw [List.cons_append, List.cons_append, List.cons_lt_cons_iff]
      rw [List.cons_lt_cons_iff] at h
      rcases h with h | ⟨rfl, h⟩
      · exact .inl h
      · exact .inr ⟨rfl, ih h (by simpa using hl)⟩
theorem lex_same {x p q : List UInt8} (h : p < q) : x ++ p < x ++ q := by
  induction x with
  | nil => exact h
  | cons a x ih =>
    rw [List.cons_append, List.cons_append, List.cons_lt_cons_iff]
    exact .inr ⟨rfl, ih⟩
theorem decDigits_lt (a : Nat) : ∀ b, a < b → (Lib.decDigits a).length = (Lib.decDigits b).length → Lib.decDigits a < Lib.decDigits b := by
  induction a using Nat.strongRecOn with
  | _ a ih =>
    intro b hab h
    rw [dd_eq a, dd_eq b] at h
    rw [dd_eq a, dd_eq b]
    by_cases hb : b < 10
    · rw [if_pos (by omega : a < 10), if_pos hb, List.cons_lt_cons_iff]
      exact .inl (byte_lt hab hb)
    · by_cases ha : a < 10
      · rw [if_pos ha, if_neg hb] at h
        have h2 := dd_pos (b / 10)
        rw [List.length_append] at h
        simp only [List.length_cons, List.length_nil] at h
        omega
      · rw [if_neg ha, if_neg hb] at h
        rw [if_neg ha, if_neg hb]
        simp only [List.length_append, List.length_cons, List.length_nil] at h
        by_cases hq : a / 10 < b / 10
        · exact lex_append (ih (a / 10) (by omega) (b / 10) hq (by omega)) (by omega)
        · have e : a / 10 = b / 10 := by omega
          rw [e]
          refine lex_same ?_
          rw [List.cons_lt_cons_iff]
          exact .inl (byte_lt (by omega) (Nat.mod_lt b (by omega)))
theorem nDigits_mono (a : Nat) : ∀ b, a ≤ b → Lib.nDigits a ≤ Lib.nDigits b := by
  induction a using Nat.strongRecOn with
  | _ a ih =>
    intro b hab
    by_cases ha : a < 10
    · rw [Lib.nDigits_small ha]
      exact Lib.nDigits_pos b
    · rw [Lib.nDigits_big ha, Lib.nDigits_big (by omega : ¬ b < 10)]
      have := ih (a / 10) (by omega) (b / 10) (by omega)
      omega
theorem dd_range (u : Nat) : ∀ c, c ∈ Lib.decDigits u → 48 ≤ c.toNat ∧ c.toNat ≤ 57 := by
  induction u using Nat.strongRecOn with
  | _ u ih =>
    intro c hc
    rw [dd_eq] at hc
    have hone : ∀ q, q < 10 → c = UInt8.ofNat (48 + q) → 48 ≤ c.toNat ∧ c.toNat ≤ 57 := fun q hq e => by
      have e2 : c.toNat = 48 + q := by rw [e]; simp; omega
      omega
    by_cases h : u < 10
    · rw [if_pos h] at hc
      exact hone u h (by simpa using hc)
    · rw [if_neg h, List.mem_append] at hc
      rcases hc with hc | hc
      · exact ih (u / 10) (by omega) c hc
      · exact hone (u % 10) (Nat.mod_lt u (by omega)) (by simpa using hc)
theorem dd_not_minus (u : Nat) (l : List UInt8) : Lib.decDigits u ≠ 45 :: l := fun e => by
  have h := dd_range u 45 (by rw [e]; exact List.mem_cons_self)
  have h2 : (45 : UInt8).toNat = 45 := rfl
  omega
theorem itoa_inj (a b : Int) (h : Lib.itoa a = Lib.itoa b) : a = b := by
  unfold Lib.itoa at h
  by_cases ha : a < 0
  · by_cases hb : b < 0
    · rw [if_pos ha, if_pos hb] at h
      have := decDigits_inj _ _ (List.cons.inj h).2
      omega
    · rw [if_pos ha, if_neg hb] at h
      exact absurd h.symm (dd_not_minus _ _)
  · by_cases hb : b < 0
    · rw [if_neg ha, if_pos hb] at h
      exact absurd h (dd_not_minus _ _)
    · rw [if_neg ha, if_neg hb] at h
      have := decDigits_inj _ _ h
      omega
end Go.Proofs.YtfmjeacjfnlhiaaGreatFmt
