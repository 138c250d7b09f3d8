/- Where a string first occurs in another one, as zzIndex finds it. Conditions: at most 1048576 bytes each. -/
import Derived.Test.YtfmjeacjfnlhiaaGreatDoorProg
import Derived.WalkKit
import Derived.WalkLawsBesides
import Derived.WalkSpells
import Derived.Lib.Hide
import Derived.Lib.IndexBytes
import Derived.Below
import Derived.Deep.QuietTactic
import Derived.BigQuiet
namespace Go.Proofs.YtfmjeacjfnlhiaaGreatDoor
open Go.RowKit Go
def Ret (v : Value) (w : World) (e : Ending) (w' : World) : Prop := e = .returned v ∧ w = w'
def RetD (v : Value) (w : World) (e : Ending) (w' : World) : Prop := e = .returned v ∧ ∃ n, w' = w.drewN n
theorem drew_more {w wr : World} (h : ∃ n, wr = w.drewN n) (m : Nat) : ∃ n, wr.drewN m = w.drewN n := by
  obtain ⟨n, rfl⟩ := h
  exact ⟨_, World.drewN_drewN _ _ _⟩
theorem retD_below {v : Value} {w : World} {e : Ending} {w' : World} (h : RetD v w e w') : e = .returned v ∧ Below w.heap.size w w' := by
  obtain ⟨he, n, rfl⟩ := h
  exact ⟨he, (Below.refl _ _).trans ⟨rfl, rfl, rfl, Nat.le_refl _, fun _ _ => rfl⟩⟩
theorem ret_bool {b c : Bool} (h : b = c) : Ending.returned (.bool b) = .returned (.bool c) := by rw [h]
/-- Does t stand in s at the place k? -/
def occ (s t : ByteArray) (k : Nat) : Bool := Lib.occAt s.data.toList t.data.toList k
theorem occ_piece (s t : ByteArray) (k : Nat) (h : k + t.size ≤ s.size) : ((s.extract k (k + t.size)).toList == t.toList) = occ s t k := (Lib.occ_of_piece s t k h).symm
theorem occ_yes (s t : ByteArray) (k : Nat) (h : k + t.size ≤ s.size) (ha : ∀ j (h1 : k + j < s.size) (h2 : j < t.size), s[k + j] = t[j]) : occ s t k = true := by
  unfold occ
  rw [Lib.occAt_iff_take _ _ _ (by simpa using h), beq_iff_eq]
  apply List.ext_getElem
  · simp; omega
  · intro j h1 h2
    have h2' : j < t.size := by simpa using h2
    rw [List.getElem_take, List.getElem_drop]
    exact ha j (by omega) h2'
theorem occ_no (s t : ByteArray) (k j : Nat) (h : k + t.size ≤ s.size) (h1 : k + j < s.size) (h2 : j < t.size) (hne : s[k + j] ≠ t[j]) : occ s t k = false := by
  unfold occ
  rw [Lib.occAt_iff_take _ _ _ (by simpa using h), beq_eq_false_iff_ne]
  intro e
  apply hne
  have hl : j < ((s.data.toList.drop k).take t.data.toList.length).length := by simp; omega
  have hg := List.getElem_of_eq e hl
  rw [List.getElem_take, List.getElem_drop] at hg
  exact hg
/-- What zzIndex tells. -/
def First (s t : ByteArray) (z : Int) : Prop :=
  (∃ k : Nat, z = k ∧ k + t.size ≤ s.size ∧ occ s t k = true ∧ ∀ j, j < k → occ s t j = false) ∨ (z = -1 ∧ ∀ j, j + t.size ≤ s.size → occ s t j = false)
set_option maxRecDepth 100000 in
set_option maxHeartbeats 800000 in
theorem zzIndex_any (s t : ByteArray) (hs : s.size ≤ 1048576) (ht : t.size ≤ 1048576) (w : World) :
    Calls Tryz.prog 46 #[.string s, .string t] w fun e w' => ∃ z : Int, First s t z ∧ RetD (.int .i64 z) w e w' := by
  go_enter Tryz.func46, Tryz.ntmps46
  go_wp2
  go_loopw [5] (fun i wr => ∃ k : Nat, k ≤ s.size + 1 ∧ i = .int .i64 k ∧ Hid (∀ j, j < k → occ s t j = false) ∧ Hid (∃ nq, wr = w.drewN nq)) (fun i _ => s.size + 1 - (intOf i).toNat)
  case atStart => exact ⟨0, Nat.zero_le _, rfl, Lib.hid (fun j hj => by omega), Lib.hid ⟨0, rfl⟩⟩
  case round =>
    obtain ⟨k, hk, rfl, Hn, Hw⟩ := hrel
    obtain ⟨e, he⟩ : ∃ e, e = k + t.size := ⟨_, rfl⟩
    have hsum : IntKind.i64.wrap ((k : Int) + t.size) = (e : Int) := by rw [IntWalk.i64_in _ (by omega)]; omega
    have hke : k ≤ e := by omega
    by_cases hle : e ≤ s.size
    · have hp := occ_piece s t k (by omega)
      rw [← he] at hp
      have HE := Lib.hid he
      clear he
      cases ho : occ s t k with
      | true =>
        rw [ho] at hp
        have HO := Lib.hid ho
        clear ho
        go_wp2
        go_ret
        exact ⟨k, Or.inl ⟨k, rfl, by rw [← HE.out]; exact hle, HO.out, Hn.out⟩, rfl, Hw.out⟩
      | false =>
        rw [ho] at hp
        have HO := Lib.hid ho
        clear ho
        go_wp2
        go_roundw
        case rel => exact ⟨k + 1, by omega, by go_num, Lib.hid (fun j hj => by
          by_cases ej : j = k
          · rw [ej]; exact HO.out
          · exact Hn.out j (by omega)), Hw⟩
        case measure => simp [intOf]; omega
    · have HE := Lib.hid he
      clear he
      go_wp2
      go_ret
      exact ⟨-1, Or.inr ⟨rfl, fun j hj => Hn.out j (by have := HE.out; omega)⟩, rfl, Hw.out⟩
end Go.Proofs.YtfmjeacjfnlhiaaGreatDoor
