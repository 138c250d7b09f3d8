/- The law on two strings: jq's < is byte-wise lexicographic order. Conditions: none. -/
import Derived.Test.YtkdfilghfaljpaaGreatDoorOps
import Derived.Lib.Strings
namespace Go.Proofs.YtkdfilghfaljpaaGreatDoor
open Go.RowKit Go
def lessAt (a b : ByteArray) (k : Nat) : Bool := Op.bytesLess (a.data.toList.drop k) (b.data.toList.drop k)
theorem drop_at (a : ByteArray) (k : Nat) (h : k < a.size) : a.data.toList.drop k = a[k] :: a.data.toList.drop (k + 1) := by
  rw [List.drop_eq_getElem_cons (by simpa using h)]
  rfl
theorem lessAt_ne (a b : ByteArray) (k : Nat) (h1 : k < a.size) (h2 : k < b.size) (h : ((a[k].toNat : Int) != b[k].toNat) = true) :
    lessAt a b k = decide ((a[k].toNat : Int) < b[k].toNat) := by
  unfold lessAt
  rw [drop_at a k h1, drop_at b k h2, Op.bytesLess]
  have hne : (a[k] == b[k]) = false := by
    rw [beq_eq_false_iff_ne]; intro e; rw [e] at h; simp at h
  rw [hne, Bool.false_and, Bool.or_false, Bool.eq_iff_iff]
  simp [UInt8.lt_iff_toNat_lt]
theorem lessAt_eq (a b : ByteArray) (k : Nat) (h1 : k < a.size) (h2 : k < b.size) (h : ((a[k].toNat : Int) != b[k].toNat) = false) :
    lessAt a b k = lessAt a b (k + 1) := by
  unfold lessAt
  rw [drop_at a k h1, drop_at b k h2, Op.bytesLess]
  have he : a[k] = b[k] := by
    apply UInt8.toNat_inj.1; simp at h; omega
  rw [he]
  simp
theorem lessAt_end (a b : ByteArray) (k : Nat) (h : k = a.size ∨ k = b.size) (h1 : k ≤ a.size) (h2 : k ≤ b.size) : lessAt a b k = decide (a.size < b.size) := by
  unfold lessAt
  have la : a.data.toList.length = a.size := by simp
  have lb : b.data.toList.length = b.size := by simp
  rcases h with rfl | rfl
  · rw [List.drop_of_length_le (l := a.data.toList) (by omega)]
    by_cases e : a.size < b.size
    · rw [drop_at b _ e]; simp [Op.bytesLess, e]
    · rw [List.drop_of_length_le (l := b.data.toList) (by omega)]; simp [Op.bytesLess, e]
  · rw [List.drop_of_length_le (l := b.data.toList) (by omega)]
    have e : ¬ a.size < b.size := by omega
    cases a.data.toList.drop b.size <;> simp [Op.bytesLess, e]
theorem lessAt_zero (a b : ByteArray) : lessAt a b 0 = Op.bytesLess a.toList b.toList := by
  unfold lessAt; rw [List.drop_zero, List.drop_zero, Lib.toList_data, Lib.toList_data]
set_option maxRecDepth 100000 in
set_option maxHeartbeats 800000 in
theorem bytesLess_any (a b : ByteArray) (ha : a.size ≤ 1048576) (hb : b.size ≤ 1048576) (w : World) : Calls Tryz.prog 19 #[.string a, .string b] w (RetD (.bool (lessAt a b 0)) w) := by
  by_cases hab : b.size < a.size
  · go_enter Tryz.func19, Tryz.ntmps19
    go_wp2
    go_loopw [6] (fun i wr => ∃ k : Nat, k ≤ a.size ∧ k ≤ b.size ∧ i = .int .i64 k ∧ Hid (lessAt a b 0 = lessAt a b k) ∧ Hid (∃ nq, wr = w.drewN nq)) (fun i _ => a.size - (intOf i).toNat)
    case atStart => exact ⟨0, Nat.zero_le _, Nat.zero_le _, rfl, rfl, ⟨0, rfl⟩⟩
    case round =>
      obtain ⟨k, hk1, hk2, rfl, Hc, Hw⟩ := hrel
      by_cases hlt : k < a.size ∧ k < b.size
      · obtain ⟨hlt1, hlt2⟩ := hlt
        go_wp2
        go_quiet (fail)
        go_wp2
        · have hne : ((a[k].toNat : Int) != b[k].toNat) = true := by assumption
          have HS := Lib.hid (lessAt_ne a b k hlt1 hlt2 hne)
          go_quiet (fail)
          go_wp2
          go_ret
          exact ⟨ret_bool (by rw [Hc.out, HS.out]; simp), drew_more (drew_more Hw.out _) _⟩
        · have heq : ((a[k].toNat : Int) != b[k].toNat) = false := by assumption
          have HS := Lib.hid (lessAt_eq a b k hlt1 hlt2 heq)
          go_roundw
          case rel => exact ⟨k + 1, by omega, by omega, by go_num, Lib.hid (by rw [Hc.out, HS.out]), Lib.hid (drew_more Hw.out _)⟩
          case measure => simp [intOf]; omega
      · obtain rfl : k = b.size := by omega
        go_wp2
        go_ret
        exact ⟨ret_bool (by rw [Hc.out, lessAt_end a b _ (by simp) hk1 hk2]), Hw.out⟩
  · go_enter Tryz.func19, Tryz.ntmps19
    go_wp2
    go_loopw [6] (fun i wr => ∃ k : Nat, k ≤ a.size ∧ k ≤ b.size ∧ i = .int .i64 k ∧ Hid (lessAt a b 0 = lessAt a b k) ∧ Hid (∃ nq, wr = w.drewN nq)) (fun i _ => a.size - (intOf i).toNat)
    case atStart => exact ⟨0, Nat.zero_le _, Nat.zero_le _, rfl, rfl, ⟨0, rfl⟩⟩
    case round =>
      obtain ⟨k, hk1, hk2, rfl, Hc, Hw⟩ := hrel
      by_cases hlt : k < a.size ∧ k < b.size
      · obtain ⟨hlt1, hlt2⟩ := hlt
        go_wp2
        go_quiet (fail)
        go_wp2
        · have hne : ((a[k].toNat : Int) != b[k].toNat) = true := by assumption
          have HS := Lib.hid (lessAt_ne a b k hlt1 hlt2 hne)
          go_quiet (fail)
          go_wp2
          go_ret
          exact ⟨ret_bool (by rw [Hc.out, HS.out]; simp), drew_more (drew_more Hw.out _) _⟩
        · have heq : ((a[k].toNat : Int) != b[k].toNat) = false := by assumption
          have HS := Lib.hid (lessAt_eq a b k hlt1 hlt2 heq)
          go_roundw
          case rel => exact ⟨k + 1, by omega, by omega, by go_num, Lib.hid (by rw [Hc.out, HS.out]), Lib.hid (drew_more Hw.out _)⟩
          case measure => simp [intOf]; omega
      · obtain rfl : k = a.size := by omega
        go_wp2
        go_ret
        exact ⟨ret_bool (by rw [Hc.out, lessAt_end a b _ (by simp) hk1 hk2]), Hw.out⟩

theorem cmpS_lt (a b : ByteArray) : decide (cmpS a b < 0) = Op.bytesLess a.toList b.toList := by
  unfold cmpS
  cases Op.bytesLess a.toList b.toList <;> simp
  split <;> simp
theorem ltString (a b : ByteArray) (w : World) : Calls Tryz.prog 18 #[.string a, .string b] w (RetD (.bool (Op.bytesLess a.toList b.toList)) w) := by
  have H := Lib.hid (cmpS_lt a b)
  go_enter Tryz.func18, Tryz.ntmps18
  go_wp2_with (go_at_call 26; refine (funcOpLt_of _ _ _ _ (retD_of (compare_ss _ _ _))).mono ?_; rintro e w' ⟨rfl, nq, rfl⟩)
  go_ret
  exact ⟨ret_bool H.out, _, rfl⟩
set_option maxRecDepth 100000 in
theorem bytesLt (a b : ByteArray) (ha : a.size ≤ 9223372036854775807) (hb : b.size ≤ 9223372036854775807) (w : World) : Calls Tryz.prog 17 #[.string a, .string b] w (Ret (.bool (decide (a.size + b.size ≤ 1048576))) w) := by
  have hsum : a.size ≤ 1048576 → b.size ≤ 1048576 → IntKind.i64.wrap ((a.size : Int) + b.size) = a.size + b.size := fun h1 h2 => IntWalk.i64_in _ (by omega)
  by_cases h1 : a.size ≤ 1048576
  · by_cases h2 : b.size ≤ 1048576
    · by_cases h3 : a.size + b.size ≤ 1048576
      · go_enter Tryz.func17, Tryz.ntmps17
        go_wp2
        go_ret
        exact ⟨ret_bool (by simp [h3]), rfl⟩
      · have h3' : 1048576 < a.size + b.size := by omega
        go_enter Tryz.func17, Tryz.ntmps17
        go_wp2
        go_ret
        exact ⟨ret_bool (by simp [h3]), rfl⟩
    · have h2' : 1048576 < b.size := by omega
      go_enter Tryz.func17, Tryz.ntmps17
      go_wp2
      go_ret
      exact ⟨ret_bool (by simp; omega), rfl⟩
  · have h1' : 1048576 < a.size := by omega
    go_enter Tryz.func17, Tryz.ntmps17
    go_wp2
    go_ret
    exact ⟨ret_bool (by simp; omega), rfl⟩
set_option maxRecDepth 100000 in
set_option maxHeartbeats 800000 in
theorem lawLtStrings (a b : ByteArray) (ha : a.size ≤ 9223372036854775807) (hb : b.size ≤ 9223372036854775807) (w : World) : Calls Tryz.prog 8 #[.string a, .string b] w (RetD (.bool true) w) := by
  by_cases h3 : a.size + b.size ≤ 1048576
  · have hz := Lib.hid (lessAt_zero a b)
    go_enter Tryz.func8, Tryz.ntmps8
    go_wp2_with (first | (go_at_call 17; refine (bytesLt _ _ ha hb _).mono ?_; rintro e w' ⟨rfl, rfl⟩) | (go_at_call 18; refine (ltString _ _ _).mono ?_; rintro e w' ⟨rfl, nq, rfl⟩) | (go_at_call 19; refine (bytesLess_any _ _ (by omega) (by omega) _).mono ?_; rintro e w' ⟨rfl, nq2, rfl⟩))
    all_goals go_ret
    all_goals first | exact ⟨rfl, 0, rfl⟩ | exact ⟨ret_bool (by rw [hz.out]; simp), _, rfl⟩
  · have h3' : 1048576 < a.size + b.size := by omega
    go_enter Tryz.func8, Tryz.ntmps8
    go_wp2_with (go_at_call 17; refine (bytesLt _ _ ha hb _).mono ?_; rintro e w' ⟨rfl, rfl⟩)
    go_ret
    exact ⟨rfl, 0, rfl⟩
end Go.Proofs.YtkdfilghfaljpaaGreatDoor
