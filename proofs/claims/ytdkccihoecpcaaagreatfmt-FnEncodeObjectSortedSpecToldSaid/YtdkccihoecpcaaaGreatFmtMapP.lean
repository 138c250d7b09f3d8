/- A map from keys to their last places, as it is read, against the list of keys and last places. Conditions: none. -/
import Derived.Test.YtdkccihoecpcaaaGreatFmtSortP
import Derived.Maps.Ext
namespace Go.Proofs.YtdkccihoecpcaaaGreatFmt
open Go
/-- What a key reads as. -/
def kL (x : ByteArray) : Lit := .string x.data.toList
theorem kL_inj {x y : ByteArray} (h : kL x = kL y) : x = y := by
  unfold kL at h
  simp only [Lit.string.injEq] at h
  exact ba_ext h
/-- What the map reads as after k keys. -/
def Dm (ks : List ByteArray) : Nat → DataW Unit
  | 0 => .map []
  | k + 1 => (Dm ks k).put (kL (ks.getD k ByteArray.empty)) (.lit (.int .i64 (k : Int)))
theorem kL_key (x : ByteArray) : WideAt.IsKeyLit (kL x) := trivial
theorem isMap_Dm (ks : List ByteArray) : ∀ k, Maps.IsMap (Dm ks k)
  | 0 => Maps.isMap_empty
  | k + 1 => (isMap_Dm ks k).put _ _
theorem has_Dm (ks : List ByteArray) : ∀ (k : Nat) (x : ByteArray), Maps.has (Dm ks k) (kL x) = true ↔ ∃ i, LastAt ks k x i
  | 0, x => by
    constructor
    · intro h; cases h
    · rintro ⟨i, h, _⟩; omega
  | k + 1, x => by
    unfold Dm
    by_cases e : x = ks.getD k ByteArray.empty
    · subst e
      rw [Maps.has_put_same (isMap_Dm ks k) (kL_key _)]
      exact ⟨fun _ => ⟨k, Nat.lt_succ_self _, rfl, fun j h1 h2 => by omega⟩, fun _ => rfl⟩
    · rw [Maps.has_put_other (fun h => e (kL_inj h)), has_Dm ks k x]
      constructor
      · rintro ⟨i, h1, h2, h3⟩
        refine ⟨i, by omega, h2, fun j h4 h5 => ?_⟩
        by_cases ej : j = k
        · subst ej; exact fun h => e h.symm
        · exact h3 j h4 (by omega)
      · rintro ⟨i, h1, h2, h3⟩
        have hik : i ≠ k := fun ei => e (by rw [← h2, ei])
        exact ⟨i, by omega, h2, fun j h4 h5 => h3 j h4 (by omega)⟩
theorem at_Dm (ks : List ByteArray) (z : DataW Unit) : ∀ (k : Nat) (x : ByteArray) (i : Nat), LastAt ks k x i → (Dm ks k).atKey (kL x) z = .lit (.int .i64 (i : Int))
  | 0, x, i, h => by have := h.1; omega
  | k + 1, x, i, h => by
    unfold Dm
    obtain ⟨h1, h2, h3⟩ := h
    by_cases e : x = ks.getD k ByteArray.empty
    · have hik : i = k := by
        by_cases ei : i = k
        · exact ei
        · exact absurd e.symm (h3 k (by omega) (by omega))
      subst hik
      subst e
      exact Maps.atKey_put_same (isMap_Dm ks i) (kL_key _) _ _
    · rw [Maps.atKey_put_other (fun h => e (kL_inj h))]
      have hik : i ≠ k := fun ei => e (by rw [← h2, ei])
      exact at_Dm ks z k x i ⟨by omega, h2, fun j h4 h5 => h3 j h4 (by omega)⟩
theorem lastAt_unique {ks : List ByteArray} {k : Nat} {x : ByteArray} {i j : Nat} (h : LastAt ks k x i) (g : LastAt ks k x j) : i = j := by
  rcases Nat.lt_trichotomy i j with e | e | e
  · exact absurd g.2.1 (h.2.2 j e g.1)
  · exact e
  · exact absurd h.2.1 (g.2.2 i e h.1)
end Go.Proofs.YtdkccihoecpcaaaGreatFmt
