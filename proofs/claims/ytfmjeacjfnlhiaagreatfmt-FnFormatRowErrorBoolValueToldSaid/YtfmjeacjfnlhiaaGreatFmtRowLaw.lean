/- The message on a row that cannot be formatted, at a bool: the law walked, over what the messages are. Conditions: none. -/
import Derived.Test.YtfmjeacjfnlhiaaGreatFmtRowErr
namespace Go.Proofs.YtfmjeacjfnlhiaaGreatFmt
open Go.RowKit Go
set_option maxRecDepth 100000 in
set_option maxHeartbeats 1600000 in
/-- A prefix is cut off. -/
theorem cut_any (s p : ByteArray) (hs : s.size ≤ 8388608) (hp : p.size ≤ s.size) (h : ∀ k (h1 : k < p.size), s[k]'(by omega) = p[k]'h1) (w : World) :
    Calls Tryz.prog 25 #[.string s, .string p] w fun e w' => (∃ x, e = .returned (.tuple #[.string x, .bool true])) ∧ ∃ n, w' = w.drewN n := by
  have HH := Lib.hid h
  have hnl : ¬ s.size < p.size := by omega
  clear h
  go_enter Tryz.func25, Tryz.ntmps25
  go_wp2
  go_loopw [6] (fun i wr => ∃ (k nq : Nat), k ≤ p.size ∧ i = .int .i64 k ∧ wr = w.drewN nq) (fun i _ => p.size - (intOf i).toNat)
  case atStart => exact ⟨0, 0, Nat.zero_le _, rfl, rfl⟩
  case round =>
    obtain ⟨k, nq, hk, rfl, rfl⟩ := hrel
    by_cases hlt : k < p.size
    · have hlt2 : k < s.size := by omega
      have hx := HH.out k hlt
      go_wp2
      go_quiet (fail)
      go_wp2
      go_roundw
      case rel => exact ⟨k + 1, _, by omega, by go_num, rfl⟩
      case measure => simp [intOf]; omega
    · obtain rfl : k = p.size := by omega
      go_wp2
      go_ret2
      exact ⟨⟨_, rfl⟩, _, rfl⟩
/-- The head of one message, cut off another one. -/
theorem head_of (H x y : ByteArray) (k : Nat) (h1 : k < ((H ++ x).extract 0 H.size).size) (h2 : k < (H ++ y).size) : (H ++ y)[k]'h2 = ((H ++ x).extract 0 H.size)[k]'h1 := by
  have hk : k < H.size := by
    have := h1
    simp only [ByteArray.size_extract] at this
    omega
  simp only [ByteArray.getElem_extract, Nat.zero_add]
  rw [ByteArray.getElem_append_left hk, ByteArray.getElem_append_left hk]
theorem bytes72 (t : ByteArray) (b : Bool) (ht : t.size ≤ 1048576) (w : World) : Calls Tryz.prog 22 #[.string t, .bool b] w (Ret (.bool true) w) := by
  go_enter Tryz.func22, Tryz.ntmps22
  go_wp2
  go_ret
  exact ⟨rfl, rfl⟩
theorem bytes72_no (t : ByteArray) (b : Bool) (ht : 1048576 < t.size) (hm : t.size ≤ 9223372036854775807) (w : World) : Calls Tryz.prog 22 #[.string t, .bool b] w (Ret (.bool false) w) := by
  go_enter Tryz.func22, Tryz.ntmps22
  go_wp2
  go_ret
  exact ⟨rfl, rfl⟩
set_option maxRecDepth 100000 in
set_option maxHeartbeats 3200000 in
theorem lawRow_false (t : ByteArray) (ht : t.size ≤ 1048576) (w : World) : Calls Tryz.prog 8 #[.string t, .bool false] w (RetB (.bool true) w) := by
  have HB := Lib.hid (bytes72 t false ht)
  have HA := Lib.hid (zz_row_false t ht)
  have HN := Lib.hid (zz_row_nil t ht)
  obtain ⟨A, B, C, hC, h1, h2, h3⟩ := sums t ⟨#[98, 111, 111, 108, 101, 97, 110, 32, 40, 102, 97, 108, 115, 101, 41]⟩ ht (by decide)
  have hz := rowHead_size t
  obtain ⟨N, hN⟩ : ∃ N, N = rowHead t ++ ⟨#[110, 117, 108, 108]⟩ := ⟨_, rfl⟩
  have hNs : N.size = (rowHead t).size + 4 := by rw [hN, ByteArray.size_append]; rfl
  have HC := Lib.hid (show ∀ w, Calls Tryz.prog 25 #[.string C, .string (N.extract 0 (rowHead t).size)] w fun e w' => (∃ x, e = .returned (.tuple #[.string x, .bool true])) ∧ ∃ n, w' = w.drewN n from fun w => by
    rw [hC, hN]
    refine cut_any _ _ ?_ ?_ (fun k h1 => head_of _ _ _ _ _ _) w
    · rw [ByteArray.size_append, hz]; show t.size + 36 + 15 ≤ _; omega
    · rw [ByteArray.size_append, ByteArray.size_extract, ByteArray.size_append]; omega)
  rw [← hC] at HA
  rw [← hN] at HN
  obtain ⟨p, hp⟩ : ∃ p, p = (rowHead t).size := ⟨_, rfl⟩
  rw [← hp] at HC hz hNs
  have hNi : (N.size : Int) = (p : Int) + 4 := by omega
  have hpN : p ≤ N.size := by omega
  have hpb : p ≤ 2000000 := by omega
  have hcmp : (C.toList == (⟨#[64]⟩ ++ t ++ ⟨#[32, 99, 97, 110, 110, 111, 116, 32, 102, 111, 114, 109, 97, 116, 32, 97, 110, 32, 97, 114, 114, 97, 121, 32, 105, 110, 99, 108, 117, 100, 105, 110, 103, 58, 32]⟩ ++ ⟨#[98, 111, 111, 108, 101, 97, 110, 32, 40, 102, 97, 108, 115, 101, 41]⟩).toList) = true := by rw [hC]; exact beq_self_eq_true _
  clear hC hN hNs hp hz h1 h2 h3
  go_enter Tryz.func8, Tryz.ntmps8
  go_wp2_with (go_at_call 22; refine (HB.out _).mono ?_; rintro e w' ⟨rfl, rfl⟩)
  try go_at_call 23
  refine (HA.out _).mono ?_
  rintro e w1 ⟨rfl, hb1⟩
  go_wp2_with fail
  try go_at_call 24
  refine (HN.out _).mono ?_
  rintro e w2 ⟨rfl, hb2⟩
  have HB2 := Lib.hid (hb1.trans (hb2.mono hb1.size))
  clear hb1 hb2
  go_wp2_with fail
  try go_at_call 25
  refine (HC.out _).mono ?_
  rintro e w3 ⟨⟨x, rfl⟩, nq, rfl⟩
  go_wp2
  go_ret
  exact ⟨rfl, HB2.out.trans ⟨rfl, rfl, rfl, Nat.le_refl _, fun _ _ => rfl⟩⟩
set_option maxRecDepth 100000 in
set_option maxHeartbeats 3200000 in
theorem lawRow_true (t : ByteArray) (ht : t.size ≤ 1048576) (w : World) : Calls Tryz.prog 8 #[.string t, .bool true] w (RetB (.bool true) w) := by
  have HB := Lib.hid (bytes72 t true ht)
  have HA := Lib.hid (zz_row_true t ht)
  have HN := Lib.hid (zz_row_nil t ht)
  obtain ⟨A, B, C, hC, h1, h2, h3⟩ := sums t ⟨#[98, 111, 111, 108, 101, 97, 110, 32, 40, 116, 114, 117, 101, 41]⟩ ht (by decide)
  have hz := rowHead_size t
  obtain ⟨N, hN⟩ : ∃ N, N = rowHead t ++ ⟨#[110, 117, 108, 108]⟩ := ⟨_, rfl⟩
  have hNs : N.size = (rowHead t).size + 4 := by rw [hN, ByteArray.size_append]; rfl
  have HC := Lib.hid (show ∀ w, Calls Tryz.prog 25 #[.string C, .string (N.extract 0 (rowHead t).size)] w fun e w' => (∃ x, e = .returned (.tuple #[.string x, .bool true])) ∧ ∃ n, w' = w.drewN n from fun w => by
    rw [hC, hN]
    refine cut_any _ _ ?_ ?_ (fun k h1 => head_of _ _ _ _ _ _) w
    · rw [ByteArray.size_append, hz]; show t.size + 36 + 14 ≤ _; omega
    · rw [ByteArray.size_append, ByteArray.size_extract, ByteArray.size_append]; omega)
  rw [← hC] at HA
  rw [← hN] at HN
  obtain ⟨p, hp⟩ : ∃ p, p = (rowHead t).size := ⟨_, rfl⟩
  rw [← hp] at HC hz hNs
  have hNi : (N.size : Int) = (p : Int) + 4 := by omega
  have hpN : p ≤ N.size := by omega
  have hpb : p ≤ 2000000 := by omega
  have hcmp : (C.toList == (⟨#[64]⟩ ++ t ++ ⟨#[32, 99, 97, 110, 110, 111, 116, 32, 102, 111, 114, 109, 97, 116, 32, 97, 110, 32, 97, 114, 114, 97, 121, 32, 105, 110, 99, 108, 117, 100, 105, 110, 103, 58, 32]⟩ ++ ⟨#[98, 111, 111, 108, 101, 97, 110, 32, 40, 116, 114, 117, 101, 41]⟩).toList) = true := by rw [hC]; exact beq_self_eq_true _
  clear hC hN hNs hp hz h1 h2 h3
  go_enter Tryz.func8, Tryz.ntmps8
  go_wp2_with (go_at_call 22; refine (HB.out _).mono ?_; rintro e w' ⟨rfl, rfl⟩)
  try go_at_call 23
  refine (HA.out _).mono ?_
  rintro e w1 ⟨rfl, hb1⟩
  go_wp2_with fail
  try go_at_call 24
  refine (HN.out _).mono ?_
  rintro e w2 ⟨rfl, hb2⟩
  have HB2 := Lib.hid (hb1.trans (hb2.mono hb1.size))
  clear hb1 hb2
  go_wp2_with fail
  try go_at_call 25
  refine (HC.out _).mono ?_
  rintro e w3 ⟨⟨x, rfl⟩, nq, rfl⟩
  go_wp2
  go_ret
  exact ⟨rfl, HB2.out.trans ⟨rfl, rfl, rfl, Nat.le_refl _, fun _ _ => rfl⟩⟩
set_option maxRecDepth 100000 in
theorem lawRow (t : ByteArray) (b : Bool) (hm : t.size ≤ 9223372036854775807) (w : World) : Calls Tryz.prog 8 #[.string t, .bool b] w (RetB (.bool true) w) := by
  by_cases ht : t.size ≤ 1048576
  · cases b
    · exact lawRow_false t ht w
    · exact lawRow_true t ht w
  · have HB := Lib.hid (bytes72_no t b (by omega) hm)
    go_enter Tryz.func8, Tryz.ntmps8
    go_wp2_with (go_at_call 22; refine (HB.out _).mono ?_; rintro e w' ⟨rfl, rfl⟩)
    go_ret
    exact ⟨rfl, Below.refl _ _⟩
end Go.Proofs.YtfmjeacjfnlhiaaGreatFmt
