/- The messages on indices that are too large stand in shortlex order: the law walked. Conditions: the table of powers of ten lies as the row lists it. -/
import Derived.Test.YtfmjeacjfnlhiaaGreatFmtLawSep
import Derived.Sort.Walk0
namespace Go.Proofs.YtfmjeacjfnlhiaaGreatFmt
open Go.RowKit Go.Sort Go
set_option maxRecDepth 100000 in
theorem sl_less (x y : ByteArray) (_hx : x.size ≤ 60) (_hy : y.size ≤ 60) (h : x.size < y.size) (w : World) : Calls Tryz.prog 21 #[.string x, .string y] w (Ret (.int .i64 (-1)) w) := by
  go_enter Tryz.func21, Tryz.ntmps21
  go_wp2
  go_ret
  exact ⟨rfl, rfl⟩
set_option maxRecDepth 100000 in
theorem sl_more (x y : ByteArray) (_hx : x.size ≤ 60) (_hy : y.size ≤ 60) (h : y.size < x.size) (w : World) : Calls Tryz.prog 21 #[.string x, .string y] w (Ret (.int .i64 1) w) := by
  have h2 : ¬ x.size < y.size := by omega
  go_enter Tryz.func21, Tryz.ntmps21
  go_wp2
  go_ret
  exact ⟨rfl, rfl⟩
set_option maxRecDepth 100000 in
theorem sl_same (x : ByteArray) (_hx : x.size ≤ 60) (w : World) : Calls Tryz.prog 21 #[.string x, .string x] w (Ret (.int .i64 0) w) := by
  have hb : Op.bytesLess x.toList x.toList = false := by rw [bytesLess_eq]; simp [List.lt_irrefl]
  go_enter Tryz.func21, Tryz.ntmps21
  go_wp2
  go_ret
  exact ⟨rfl, rfl⟩
set_option maxRecDepth 100000 in
theorem sl_lt (x y : ByteArray) (_hx : x.size ≤ 60) (h : x.size = y.size) (hl : x.data.toList < y.data.toList) (w : World) : Calls Tryz.prog 21 #[.string x, .string y] w (Ret (.int .i64 (-1)) w) := by
  have h3 : ¬ x.size < y.size := by omega
  have h4 : ¬ y.size < x.size := by omega
  have hb : Op.bytesLess x.toList y.toList = true := by rw [bytesLess_eq, Lib.toList_data, Lib.toList_data]; simpa using hl
  clear h hl
  go_enter Tryz.func21, Tryz.ntmps21
  go_wp2
  go_ret
  exact ⟨rfl, rfl⟩
set_option maxRecDepth 100000 in
theorem sl_gt (x y : ByteArray) (_hx : x.size ≤ 60) (h : x.size = y.size) (hl : y.data.toList < x.data.toList) (w : World) : Calls Tryz.prog 21 #[.string x, .string y] w (Ret (.int .i64 1) w) := by
  have h3 : ¬ x.size < y.size := by omega
  have h4 : ¬ y.size < x.size := by omega
  have h6 : ¬ x.data.toList < y.data.toList := fun e => absurd (List.lt_trans e hl) (List.lt_irrefl _)
  have hb : Op.bytesLess x.toList y.toList = false := by rw [bytesLess_eq, Lib.toList_data, Lib.toList_data]; simpa using h6
  have hne : (x.toList == y.toList) = false := ba_ne (fun e => by rw [e] at hl; exact absurd hl (List.lt_irrefl _))
  clear h hl h6
  go_enter Tryz.func21, Tryz.ntmps21
  go_wp2
  go_ret
  exact ⟨rfl, rfl⟩
theorem bigText_data (v : Int) (h : 0 ≤ v) : (bigText v).data.toList = [97, 114, 114, 97, 121, 32, 105, 110, 100, 101, 120, 32, 116, 111, 111, 32, 108, 97, 114, 103, 101, 58, 32] ++ Lib.decDigits v.toNat := by
  have e : Lib.itoa v = Lib.decDigits v.toNat := by unfold Lib.itoa; rw [if_neg (by omega)]
  simp [bigText, ByteArray.data_append, e]
theorem bigText_size (v : Int) (h : 0 ≤ v) : (bigText v).size = 23 + Lib.nDigits v.toNat := by
  have e := congrArg List.length (bigText_data v h)
  rw [List.length_append, Lib.decDigits_length, Array.length_toList] at e
  exact e
theorem bigText_le (v : Int) (h : 0 ≤ v) (h2 : v ≤ 9223372036854775807) : (bigText v).size ≤ 60 := by
  have := Lib.nDigits_le20 v.toNat (by omega)
  rw [bigText_size v h]
  omega
theorem order (a b : Int) (h : 0 ≤ a) (hab : a < b) : (bigText a).size < (bigText b).size ∨ ((bigText a).size = (bigText b).size ∧ (bigText a).data.toList < (bigText b).data.toList) := by
  rw [bigText_size a h, bigText_size b (by omega)]
  have hm := nDigits_mono a.toNat b.toNat (by omega)
  by_cases e : Lib.nDigits a.toNat = Lib.nDigits b.toNat
  · refine .inr ⟨by omega, ?_⟩
    rw [bigText_data a h, bigText_data b (by omega)]
    exact lex_same (decDigits_lt a.toNat b.toNat (by omega) (by rw [Lib.decDigits_length, Lib.decDigits_length]; exact e))
  · exact .inl (by omega)
set_option maxRecDepth 100000 in
set_option maxHeartbeats 1600000 in
theorem lawOrd (a b : Int) (ha : -9223372036854775808 ≤ a ∧ a ≤ 9223372036854775807) (hb : -9223372036854775808 ≤ b ∧ b ≤ 9223372036854775807) (w : World) (htab : Tab w.heap.size w) : Calls Tryz.prog 7 #[.int .i64 a, .int .i64 b] w (RetB (.bool true) w) := by
  by_cases h1 : a < 134217728
  · clear htab
    go_enter Tryz.func7, Tryz.ntmps7
    go_wp2
    go_ret
    exact ⟨rfl, Below.refl _ _⟩
  · by_cases h2 : b < 134217728
    · clear htab
      go_enter Tryz.func7, Tryz.ntmps7
      go_wp2
      go_ret
      exact ⟨rfl, Below.refl _ _⟩
    · have HA := Lib.hid (zz_big_int a ha w htab)
      have HB := Lib.hid (show ∀ w1, Below w.heap.size w w1 → Calls Tryz.prog 20 #[.int .i64 b] w1 (RetB (.string (bigText b)) w1) from fun w1 hb1 => zz_big_int b hb w1 (tab_new htab hb1))
      have sa := bigText_le a (by omega) ha.2
      have sb := bigText_le b (by omega) hb.2
      obtain ⟨z, HS, hz⟩ : ∃ z : Int, Hid (∀ w, Calls Tryz.prog 21 #[.string (bigText a), .string (bigText b)] w (Ret (.int .i64 z) w)) ∧ Hid ((a < b → z = -1) ∧ (b < a → z = 1) ∧ (a = b → z = 0)) := by
        by_cases e1 : a < b
        · refine ⟨-1, Lib.hid ?_, Lib.hid ⟨fun _ => rfl, fun h => by omega, fun h => by omega⟩⟩
          rcases order a b (by omega) e1 with h | ⟨h, k⟩
          · exact fun w => sl_less _ _ sa sb h w
          · exact fun w => sl_lt _ _ sa h k w
        · by_cases e2 : b < a
          · refine ⟨1, Lib.hid ?_, Lib.hid ⟨fun h => by omega, fun _ => rfl, fun h => by omega⟩⟩
            rcases order b a (by omega) e2 with h | ⟨h, k⟩
            · exact fun w => sl_more _ _ sa sb h w
            · exact fun w => sl_gt _ _ sa h.symm k w
          · obtain rfl : a = b := by omega
            exact ⟨0, Lib.hid (fun w => sl_same _ sa w), Lib.hid ⟨fun h => by omega, fun h => by omega, fun _ => rfl⟩⟩
      clear htab
      generalize bigText a = R at *
      generalize bigText b = T at *
      rcases Int.lt_trichotomy a b with e | e | e
      · have hz1 := hz.out.1 e
        subst hz1
        go_enter Tryz.func7, Tryz.ntmps7
        go_wp2_with fail
        refine HA.out.mono ?_
        rintro e w1 ⟨rfl, b1⟩
        go_wp2_with fail
        refine (HB.out _ b1).mono ?_
        rintro e w2 ⟨rfl, b2⟩
        go_wp2_with fail
        refine (HS.out _).mono ?_
        rintro e w3 ⟨rfl, rfl⟩
        go_wp2
        go_ret
        exact ⟨ret_bool (by first | rfl | simp), b1.trans (b2.mono b1.size)⟩
      · subst e
        have hz1 := hz.out.2.2 rfl
        subst hz1
        go_enter Tryz.func7, Tryz.ntmps7
        go_wp2_with fail
        refine HA.out.mono ?_
        rintro e w1 ⟨rfl, b1⟩
        go_wp2_with fail
        refine (HB.out _ b1).mono ?_
        rintro e w2 ⟨rfl, b2⟩
        go_wp2_with fail
        refine (HS.out _).mono ?_
        rintro e w3 ⟨rfl, rfl⟩
        go_wp2
        go_ret
        exact ⟨ret_bool (by first | rfl | simp), b1.trans (b2.mono b1.size)⟩
      · have hz1 := hz.out.2.1 e
        have e' : ¬ a < b := by omega
        subst hz1
        go_enter Tryz.func7, Tryz.ntmps7
        go_wp2_with fail
        refine HA.out.mono ?_
        rintro e w1 ⟨rfl, b1⟩
        go_wp2_with fail
        refine (HB.out _ b1).mono ?_
        rintro e w2 ⟨rfl, b2⟩
        go_wp2_with fail
        refine (HS.out _).mono ?_
        rintro e w3 ⟨rfl, rfl⟩
        go_wp2
        go_ret
        exact ⟨ret_bool (by first | rfl | simp), b1.trans (b2.mono b1.size)⟩
end Go.Proofs.YtfmjeacjfnlhiaaGreatFmt
