/- The law on two strings, walked. Conditions: none. -/
import Derived.Test.YtdklmpgjpnjdmaaGreatDoorOps
import Derived.Lib.Strings
namespace Go.Proofs.YtdklmpgjpnjdmaaGreatDoor
open Go.RowKit Go
theorem zz_eqStrings (a b : ByteArray) (w : World) : Calls Tryz.prog 12 #[.string a, .string b] w (RetD (.tuple #[.bool (cmpS a b == 0), .bool true]) w) := by
  go_enter Tryz.func12, Tryz.ntmps12
  go_wp2_with (go_at_call 31; refine (funcOpEq_of _ _ _ _ (retD_of (compare_ss _ _ _))).mono ?_; rintro e w' ⟨rfl, nq, rfl⟩)
  go_ret2
  exact ⟨rfl, _, rfl⟩
set_option maxRecDepth 100000 in
theorem bytesEq (a b : ByteArray) (ha : a.size ≤ 9223372036854775807) (hb : b.size ≤ 9223372036854775807) (w : World) : Calls Tryz.prog 11 #[.string a, .string b] w (Ret (.bool (decide (a.size + b.size ≤ 1048576))) w) := by
  have hsum : a.size ≤ 1048576 → b.size ≤ 1048576 → IntKind.i64.wrap ((a.size : Int) + b.size) = a.size + b.size := fun h1 h2 => IntWalk.i64_in _ (by omega)
  by_cases h1 : a.size ≤ 1048576
  · by_cases h2 : b.size ≤ 1048576
    · by_cases h3 : a.size + b.size ≤ 1048576
      · go_enter Tryz.func11, Tryz.ntmps11
        go_wp2
        go_ret
        exact ⟨ret_bool (by simp [h3]), rfl⟩
      · have h3' : 1048576 < a.size + b.size := by omega
        go_enter Tryz.func11, Tryz.ntmps11
        go_wp2
        go_ret
        exact ⟨ret_bool (by simp [h3]), rfl⟩
    · have h2' : 1048576 < b.size := by omega
      go_enter Tryz.func11, Tryz.ntmps11
      go_wp2
      go_ret
      exact ⟨ret_bool (by simp; omega), rfl⟩
  · have h1' : 1048576 < a.size := by omega
    go_enter Tryz.func11, Tryz.ntmps11
    go_wp2
    go_ret
    exact ⟨ret_bool (by simp; omega), rfl⟩
def sameAt (a b : ByteArray) (k : Nat) : Bool := a.data.toList.drop k == b.data.toList.drop k
theorem drop_at (a : ByteArray) (k : Nat) (h : k < a.size) : a.data.toList.drop k = a[k] :: a.data.toList.drop (k + 1) := by
  rw [List.drop_eq_getElem_cons (by simpa using h)]
  rfl
theorem sameAt_ne (a b : ByteArray) (k : Nat) (h1 : k < a.size) (h2 : k < b.size) (h : ((a[k].toNat : Int) != b[k].toNat) = true) : sameAt a b k = false := by
  unfold sameAt
  rw [drop_at a k h1, drop_at b k h2, beq_eq_false_iff_ne]
  intro e
  have := (List.cons.inj e).1
  rw [this] at h; simp at h
theorem sameAt_eq (a b : ByteArray) (k : Nat) (h1 : k < a.size) (h2 : k < b.size) (h : ((a[k].toNat : Int) != b[k].toNat) = false) : sameAt a b k = sameAt a b (k + 1) := by
  unfold sameAt
  rw [drop_at a k h1, drop_at b k h2]
  have he : a[k] = b[k] := by
    apply UInt8.toNat_inj.1; simp at h; omega
  rw [he, List.cons_beq_cons]; simp
theorem sameAt_end (a b : ByteArray) (h : a.size = b.size) : sameAt a b a.size = true := by
  unfold sameAt
  rw [List.drop_of_length_le (by simp), List.drop_of_length_le (by simp [h])]; rfl
theorem sameAt_size (a b : ByteArray) (h : a.size ≠ b.size) : sameAt a b 0 = false := by
  unfold sameAt
  rw [List.drop_zero, List.drop_zero, beq_eq_false_iff_ne]
  intro e
  exact h (by have := congrArg List.length e; simpa using this)
theorem bytesLess_self : ∀ l : List UInt8, Op.bytesLess l l = false
  | [] => rfl
  | a :: l => by simp [Op.bytesLess, bytesLess_self l]
theorem cmpS_eq (a b : ByteArray) : (cmpS a b == 0) = sameAt a b 0 := by
  unfold cmpS sameAt
  rw [List.drop_zero, List.drop_zero, ← Lib.toList_data, ← Lib.toList_data]
  by_cases e : a.toList = b.toList
  · rw [e, bytesLess_self]; simp
  · have e' : (a.toList == b.toList) = false := by simp [e]
    rw [e']
    cases Op.bytesLess a.toList b.toList <;> simp
set_option maxRecDepth 100000 in
set_option maxHeartbeats 800000 in
theorem sameBytes_any (a b : ByteArray) (ha : a.size ≤ 1048576) (_hb : b.size ≤ 1048576) (w : World) : Calls Tryz.prog 13 #[.string a, .string b] w (RetD (.bool (sameAt a b 0)) w) := by
  by_cases hab : a.size = b.size
  · have hn : ((a.size : Int) != b.size) = false := by simp [hab]
    have Hab := Lib.hid hab
    have hle : b.size ≤ a.size := by omega
    have hle2 : a.size ≤ b.size := by omega
    clear hab
    go_enter Tryz.func13, Tryz.ntmps13
    go_wp2
    go_loopw [5] (fun i wr => ∃ k : Nat, k ≤ a.size ∧ i = .int .i64 k ∧ Hid (sameAt a b 0 = sameAt a b k) ∧ Hid (∃ nq, wr = w.drewN nq)) (fun i _ => a.size - (intOf i).toNat)
    case atStart => exact ⟨0, Nat.zero_le _, rfl, rfl, ⟨0, rfl⟩⟩
    case round =>
      obtain ⟨k, hk1, rfl, Hc, Hw⟩ := hrel
      by_cases hlt1 : k < a.size
      · have hlt2 : k < b.size := by omega
        go_wp2
        go_quiet (fail)
        go_wp2
        · have hne : ((a[k].toNat : Int) != b[k].toNat) = true := by assumption
          have HS := Lib.hid (sameAt_ne a b k hlt1 hlt2 hne)
          go_ret
          exact ⟨ret_bool (by rw [Hc.out, HS.out]), drew_more Hw.out _⟩
        · have heq : ((a[k].toNat : Int) != b[k].toNat) = false := by assumption
          have HS := Lib.hid (sameAt_eq a b k hlt1 hlt2 heq)
          go_roundw
          case rel => exact ⟨k + 1, by omega, by go_num, Lib.hid (by rw [Hc.out, HS.out]), Lib.hid (drew_more Hw.out _)⟩
          case measure => simp [intOf]; omega
      · obtain rfl : k = a.size := by omega
        go_wp2
        go_ret
        exact ⟨ret_bool (by rw [Hc.out, sameAt_end a b Hab.out]), Hw.out⟩
  · have hn : ((a.size : Int) != b.size) = true := by simp [bne]; omega
    have HS := Lib.hid (sameAt_size a b hab)
    clear hab
    go_enter Tryz.func13, Tryz.ntmps13
    go_wp2
    go_ret
    exact ⟨ret_bool HS.out.symm, 0, rfl⟩
set_option maxRecDepth 100000 in
set_option maxHeartbeats 800000 in
theorem lawEqStrings (a b : ByteArray) (ha : a.size ≤ 9223372036854775807) (hb : b.size ≤ 9223372036854775807) (w : World) : Calls Tryz.prog 4 #[.string a, .string b] w (RetD (.bool true) w) := by
  by_cases h3 : a.size + b.size ≤ 1048576
  · have hz := Lib.hid (cmpS_eq a b)
    go_enter Tryz.func4, Tryz.ntmps4
    go_wp2_with (first | (go_at_call 11; refine (bytesEq _ _ ha hb _).mono ?_; rintro e w' ⟨rfl, rfl⟩) | (go_at_call 12; refine (zz_eqStrings _ _ _).mono ?_; rintro e w' ⟨rfl, nq, rfl⟩) | (go_at_call 13; refine (sameBytes_any _ _ (by omega) (by omega) _).mono ?_; rintro e w' ⟨rfl, nq2, rfl⟩))
    all_goals go_ret
    all_goals first | exact ⟨rfl, 0, rfl⟩ | exact ⟨ret_bool (by rw [hz.out]; simp), _, rfl⟩
  · have h3' : 1048576 < a.size + b.size := by omega
    go_enter Tryz.func4, Tryz.ntmps4
    go_wp2_with (go_at_call 11; refine (bytesEq _ _ ha hb _).mono ?_; rintro e w' ⟨rfl, rfl⟩)
    go_ret
    exact ⟨rfl, 0, rfl⟩
end Go.Proofs.YtdklmpgjpnjdmaaGreatDoor
