/- The index that minMaxBy picks, as a plain function: the first least key, or the last greatest; and that the two are each other's mirror. Conditions: none. -/
import Derived.Test.YtlhkbdeceogjgaaGreatDoorArr
namespace Go.Proofs.YtlhkbdeceogjgaaGreatDoor
open Go
/-- The index that minMaxBy holds once it has seen the first m keys. -/
def mmTo (isMin : Bool) (K : List Int) : Nat → Nat
  | 0 => 0
  | m + 1 => if m = 0 then 0 else if (decide (0 < cmpI (geti K (mmTo isMin K m)) (geti K m)) == isMin) = true then m else mmTo isMin K m
theorem mmTo_one (isMin : Bool) (K : List Int) : mmTo isMin K 1 = 0 := by simp [mmTo]
theorem mmTo_lt (isMin : Bool) (K : List Int) : ∀ m, 1 ≤ m → mmTo isMin K m < m
  | 0, h => by omega
  | m + 1, _ => by
    rw [mmTo]
    split
    · omega
    · split
      · omega
      · have := mmTo_lt isMin K m (by omega); omega
theorem mmTo_yes (isMin : Bool) (K : List Int) (m : Nat) (hm : 1 ≤ m) (h : (decide (0 < cmpI (geti K (mmTo isMin K m)) (geti K m)) == isMin) = true) : mmTo isMin K (m + 1) = m := by
  rw [mmTo, if_neg (by omega), if_pos h]
theorem mmTo_no (isMin : Bool) (K : List Int) (m : Nat) (hm : 1 ≤ m) (h : (decide (0 < cmpI (geti K (mmTo isMin K m)) (geti K m)) == isMin) = false) : mmTo isMin K (m + 1) = mmTo isMin K m := by
  rw [mmTo, if_neg (by omega), if_neg (by simp [h])]
theorem cmpI_pos (a b : Int) : decide (0 < cmpI a b) = decide (b < a) := by unfold cmpI; split <;> (try split) <;> simp <;> omega
theorem first_least (K : List Int) : ∀ m, 1 ≤ m → (∀ i, i < m → geti K (mmTo true K m) ≤ geti K i) ∧ (∀ i, i < mmTo true K m → geti K (mmTo true K m) < geti K i)
  | 0, h => by omega
  | m + 1, _ => by
    by_cases h0 : m = 0
    · subst h0
      rw [mmTo_one]
      exact ⟨fun i hi => by rw [show i = 0 from by omega]; exact Int.le_refl _, fun i hi => by omega⟩
    · obtain ⟨h1, h2⟩ := first_least K m (by omega)
      cases ht : (decide (0 < cmpI (geti K (mmTo true K m)) (geti K m)) == true) with
      | true =>
        rw [mmTo_yes true K m (by omega) ht]
        rw [cmpI_pos] at ht
        have ht' : geti K m < geti K (mmTo true K m) := by simpa using ht
        refine ⟨fun i hi => ?_, fun i hi => ?_⟩
        · by_cases e : i = m
          · rw [e]; exact Int.le_refl _
          · have := h1 i (by omega); omega
        · have := h1 i hi; omega
      | false =>
        rw [mmTo_no true K m (by omega) ht]
        rw [cmpI_pos] at ht
        have ht' : geti K (mmTo true K m) ≤ geti K m := by simpa using ht
        refine ⟨fun i hi => ?_, h2⟩
        by_cases e : i = m
        · rw [e]; exact ht'
        · exact h1 i (by omega)
theorem last_greatest (K : List Int) : ∀ m, 1 ≤ m → (∀ i, i < m → geti K i ≤ geti K (mmTo false K m)) ∧ (∀ i, i < m → mmTo false K m < i → geti K i < geti K (mmTo false K m))
  | 0, h => by omega
  | m + 1, _ => by
    by_cases h0 : m = 0
    · subst h0
      rw [mmTo_one]
      exact ⟨fun i hi => by rw [show i = 0 from by omega]; exact Int.le_refl _, fun i hi h => by omega⟩
    · obtain ⟨h1, h2⟩ := last_greatest K m (by omega)
      cases ht : (decide (0 < cmpI (geti K (mmTo false K m)) (geti K m)) == false) with
      | true =>
        rw [mmTo_yes false K m (by omega) ht]
        rw [cmpI_pos] at ht
        have ht' : geti K (mmTo false K m) ≤ geti K m := by simpa using ht
        refine ⟨fun i hi => ?_, fun i hi h => by omega⟩
        by_cases e : i = m
        · rw [e]; exact Int.le_refl _
        · have := h1 i (by omega); omega
      | false =>
        rw [mmTo_no false K m (by omega) ht]
        rw [cmpI_pos] at ht
        have ht' : geti K m < geti K (mmTo false K m) := by simpa using ht
        refine ⟨fun i hi => ?_, fun i hi h => ?_⟩
        · by_cases e : i = m
          · rw [e]; omega
          · exact h1 i (by omega)
        · by_cases e : i = m
          · rw [e]; exact ht'
          · exact h2 i (by omega) h
/-- The keys reversed and complemented. -/
def flip (K : List Int) : List Int := (K.map fun x => -x - 1).reverse
theorem length_flip (K : List Int) : (flip K).length = K.length := by simp [flip]
theorem geti_flip (K : List Int) (i : Nat) (h : i < K.length) : geti (flip K) i = - geti K (K.length - 1 - i) - 1 := by
  have h' : K.length - 1 - i < K.length := by omega
  simp [flip, geti, List.getD_eq_getElem?_getD, h, List.getElem?_eq_getElem h']
theorem geti_rev (V : List Int) (i : Nat) (h : i < V.length) : geti V.reverse i = geti V (V.length - 1 - i) := by
  have h' : V.length - 1 - i < V.length := by omega
  simp [geti, List.getD_eq_getElem?_getD, h, List.getElem?_eq_getElem h']
theorem dual_min (K : List Int) (h : 0 < K.length) : mmTo true K K.length = K.length - 1 - mmTo false (flip K) K.length := by
  have hj := mmTo_lt true K K.length h
  have hj' := mmTo_lt false (flip K) K.length h
  obtain ⟨a1, a2⟩ := first_least K K.length h
  obtain ⟨b1, b2⟩ := last_greatest (flip K) K.length h
  generalize mmTo true K K.length = j at *
  generalize mmTo false (flip K) K.length = j' at *
  have c1 : ∀ i, i < K.length → geti K (K.length - 1 - j') ≤ geti K i := by
    intro i hi
    have := b1 (K.length - 1 - i) (by omega)
    rw [geti_flip K (K.length - 1 - i) (by omega), geti_flip K j' hj', show K.length - 1 - (K.length - 1 - i) = i from by omega] at this
    omega
  have c2 : ∀ i, i < K.length - 1 - j' → geti K (K.length - 1 - j') < geti K i := by
    intro i hi
    have := b2 (K.length - 1 - i) (by omega) (by omega)
    rw [geti_flip K (K.length - 1 - i) (by omega), geti_flip K j' hj', show K.length - 1 - (K.length - 1 - i) = i from by omega] at this
    omega
  rcases Nat.lt_trichotomy j (K.length - 1 - j') with e | e | e
  · have x1 := c2 j e; have x2 := a1 (K.length - 1 - j') (by omega); omega
  · exact e
  · have x1 := a2 (K.length - 1 - j') e; have x2 := c1 j hj; omega
theorem dual_max (K : List Int) (h : 0 < K.length) : mmTo false K K.length = K.length - 1 - mmTo true (flip K) K.length := by
  have hj := mmTo_lt false K K.length h
  have hj' := mmTo_lt true (flip K) K.length h
  obtain ⟨a1, a2⟩ := last_greatest K K.length h
  obtain ⟨b1, b2⟩ := first_least (flip K) K.length h
  generalize mmTo false K K.length = j at *
  generalize mmTo true (flip K) K.length = j' at *
  have c1 : ∀ i, i < K.length → geti K i ≤ geti K (K.length - 1 - j') := by
    intro i hi
    have := b1 (K.length - 1 - i) (by omega)
    rw [geti_flip K (K.length - 1 - i) (by omega), geti_flip K j' hj', show K.length - 1 - (K.length - 1 - i) = i from by omega] at this
    omega
  have c2 : ∀ i, i < K.length → K.length - 1 - j' < i → geti K i < geti K (K.length - 1 - j') := by
    intro i hi hi2
    have := b2 (K.length - 1 - i) (by omega)
    rw [geti_flip K (K.length - 1 - i) (by omega), geti_flip K j' hj', show K.length - 1 - (K.length - 1 - i) = i from by omega] at this
    omega
  rcases Nat.lt_trichotomy j (K.length - 1 - j') with e | e | e
  · have x1 := a2 (K.length - 1 - j') (by omega) e; have x2 := c1 j hj; omega
  · exact e
  · have x1 := c2 j hj e; have x2 := a1 (K.length - 1 - j') (by omega); omega
/-- What the exports tell of the answer: 0 for null, else 1 and the value. -/
def mmK (V : List Int) : Int := if V = [] then 0 else 1
def mmV (isMin : Bool) (V K : List Int) : Int := if V = [] then 0 else geti V (mmTo isMin K K.length)
theorem mmK_rev (V : List Int) : mmK V.reverse = mmK V := by unfold mmK; simp
theorem mmV_dual (V K : List Int) (h : V.length = K.length) : mmV false V.reverse (flip K) = mmV true V K ∧ mmV true V.reverse (flip K) = mmV false V K := by
  unfold mmV
  by_cases e : V = []
  · simp [e]
  · have hp : 0 < K.length := by rw [← h]; exact List.length_pos_iff.2 e
    have e' : ¬ V.reverse = [] := by simpa using e
    rw [if_neg e, if_neg e', if_neg e, if_neg e', length_flip]
    have h1 := mmTo_lt false (flip K) K.length hp
    have h2 := mmTo_lt true (flip K) K.length hp
    rw [geti_rev V _ (by omega), geti_rev V _ (by omega), dual_min K hp, dual_max K hp, h]
    exact ⟨rfl, rfl⟩
end Go.Proofs.YtlhkbdeceogjgaaGreatDoor
