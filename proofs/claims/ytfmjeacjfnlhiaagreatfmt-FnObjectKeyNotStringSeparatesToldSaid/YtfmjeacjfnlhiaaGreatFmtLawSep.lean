/- The messages tell keys apart: the law walked. Conditions: the table of powers of ten lies as the row lists it. -/
import Derived.Test.YtfmjeacjfnlhiaaGreatFmtLawBig
import Derived.Test.YtfmjeacjfnlhiaaGreatFmtItoaPlain
import Derived.Lib.Strings
namespace Go.Proofs.YtfmjeacjfnlhiaaGreatFmt
open Go.RowKit Go
theorem objText_data (v : Int) : (objText v).data.toList = [101, 120, 112, 101, 99, 116, 101, 100, 32, 97, 32, 115, 116, 114, 105, 110, 103, 32, 102, 111, 114, 32, 111, 98, 106, 101, 99, 116, 32, 107, 101, 121, 32, 98, 117, 116, 32, 103, 111, 116, 58, 32, 110, 117, 109, 98, 101, 114, 32, 40] ++ Lib.itoa v ++ [41] := by simp [objText, ByteArray.data_append]
theorem objText_inj (a b : Int) (h : objText a = objText b) : a = b := by
  have h1 := congrArg (fun x : ByteArray => x.data.toList) h
  simp only [objText_data] at h1
  have h2 := List.append_cancel_right h1
  exact itoa_inj a b (List.append_cancel_left h2)
theorem ba_ne {a b : ByteArray} (h : a.data.toList ≠ b.data.toList) : (a.toList == b.toList) = false := by
  rw [beq_eq_false_iff_ne]
  intro e
  apply h
  rw [Lib.toList_data, Lib.toList_data] at e
  exact e
theorem obj_ne_false (v : Int) : ((objText v).toList == [101, 120, 112, 101, 99, 116, 101, 100, 32, 97, 32, 115, 116, 114, 105, 110, 103, 32, 102, 111, 114, 32, 111, 98, 106, 101, 99, 116, 32, 107, 101, 121, 32, 98, 117, 116, 32, 103, 111, 116, 58, 32, 98, 111, 111, 108, 101, 97, 110, 32, 40, 102, 97, 108, 115, 101, 41]) = false := by
  rw [beq_eq_false_iff_ne, Lib.toList_data, objText_data]
  simp
theorem obj_ne_true (v : Int) : ((objText v).toList == [101, 120, 112, 101, 99, 116, 101, 100, 32, 97, 32, 115, 116, 114, 105, 110, 103, 32, 102, 111, 114, 32, 111, 98, 106, 101, 99, 116, 32, 107, 101, 121, 32, 98, 117, 116, 32, 103, 111, 116, 58, 32, 98, 111, 111, 108, 101, 97, 110, 32, 40, 116, 114, 117, 101, 41]) = false := by
  rw [beq_eq_false_iff_ne, Lib.toList_data, objText_data]
  simp
theorem obj_ne_nil (v : Int) : ((objText v).toList == [101, 120, 112, 101, 99, 116, 101, 100, 32, 97, 32, 115, 116, 114, 105, 110, 103, 32, 102, 111, 114, 32, 111, 98, 106, 101, 99, 116, 32, 107, 101, 121, 32, 98, 117, 116, 32, 103, 111, 116, 58, 32, 110, 117, 108, 108]) = false := by
  rw [beq_eq_false_iff_ne, Lib.toList_data, objText_data]
  simp
theorem obj_ne (a b : Int) (h : a ≠ b) : ((objText a).toList == (objText b).toList) = false := ba_ne (fun e => h (objText_inj a b (ByteArray.ext (Array.toList_inj.1 e))))
set_option maxRecDepth 100000 in
set_option maxHeartbeats 1600000 in
theorem lawSep (i j : Int) (b : Bool) (hi : -9223372036854775808 ≤ i ∧ i ≤ 9223372036854775807) (hj : -9223372036854775808 ≤ j ∧ j ≤ 9223372036854775807) (w : World) (htab : Tab w.heap.size w) : Calls Tryz.prog 6 #[.int .i64 i, .int .i64 j, .bool b] w (RetB (.bool true) w) := by
  have HI := Lib.hid (zz_obj_int i hi w htab)
  have HJ := Lib.hid (show ∀ w1, Below w.heap.size w w1 → Calls Tryz.prog 18 #[.int .i64 j] w1 (RetB (.string (objText j)) w1) from fun w1 hb => zz_obj_int j hj w1 (tab_new htab hb))
  have f1 := obj_ne_false i
  have t1 := obj_ne_true i
  have n1 := obj_ne_nil i
  have hnot : ∀ (x : Bool) (w : World), (Op.unary .not (.bool x)).run Tryz.prog w = .ok (.bool (!x)) w := fun _ _ => rfl
  clear htab
  by_cases h : i = j
  · subst h
    generalize objText i = R at *
    cases b
    · go_enter Tryz.func6, Tryz.ntmps6
      go_wp2_with fail
      refine HI.out.mono ?_
      rintro e w1 ⟨rfl, b1⟩
      go_wp2_with fail
      refine (HJ.out _ b1).mono ?_
      rintro e w2 ⟨rfl, b2⟩
      go_wp2_with fail
      refine (zz_obj_false _).mono ?_
      rintro e w3 ⟨rfl, b3⟩
      go_wp2_with fail
      refine (zz_obj_true _).mono ?_
      rintro e w4 ⟨rfl, b4⟩
      go_wp2_with fail
      refine (zz_obj_nil _).mono ?_
      rintro e w5 ⟨rfl, b5⟩
      have HB := Lib.hid (show Below w.heap.size w w5 from (((b1.trans (b2.mono b1.size)).trans (b3.mono (by have := b1.size; have := b2.size; omega))).trans (b4.mono (by have := b1.size; have := b2.size; have := b3.size; omega))).trans (b5.mono (by have := b1.size; have := b2.size; have := b3.size; have := b4.size; omega)))
      clear b1 b2 b3 b4 b5
      go_wp2
      go_ret
      exact ⟨ret_bool (by first | rfl | simp), HB.out⟩
    · go_enter Tryz.func6, Tryz.ntmps6
      go_wp2_with fail
      refine HI.out.mono ?_
      rintro e w1 ⟨rfl, b1⟩
      go_wp2_with fail
      refine (HJ.out _ b1).mono ?_
      rintro e w2 ⟨rfl, b2⟩
      go_wp2_with fail
      refine (zz_obj_true _).mono ?_
      rintro e w3 ⟨rfl, b3⟩
      go_wp2_with fail
      refine (zz_obj_false _).mono ?_
      rintro e w4 ⟨rfl, b4⟩
      go_wp2_with fail
      refine (zz_obj_nil _).mono ?_
      rintro e w5 ⟨rfl, b5⟩
      have HB := Lib.hid (show Below w.heap.size w w5 from (((b1.trans (b2.mono b1.size)).trans (b3.mono (by have := b1.size; have := b2.size; omega))).trans (b4.mono (by have := b1.size; have := b2.size; have := b3.size; omega))).trans (b5.mono (by have := b1.size; have := b2.size; have := b3.size; have := b4.size; omega)))
      clear b1 b2 b3 b4 b5
      go_wp2
      go_ret
      exact ⟨ret_bool (by first | rfl | simp), HB.out⟩
  · have hij := obj_ne i j h
    have he : (i == j) = false := by simpa using h
    generalize objText i = R at *
    generalize objText j = T at *
    cases b
    · go_enter Tryz.func6, Tryz.ntmps6
      go_wp2_with fail
      refine HI.out.mono ?_
      rintro e w1 ⟨rfl, b1⟩
      go_wp2_with fail
      refine (HJ.out _ b1).mono ?_
      rintro e w2 ⟨rfl, b2⟩
      go_wp2_with fail
      refine (zz_obj_false _).mono ?_
      rintro e w3 ⟨rfl, b3⟩
      go_wp2_with fail
      refine (zz_obj_true _).mono ?_
      rintro e w4 ⟨rfl, b4⟩
      go_wp2_with fail
      refine (zz_obj_nil _).mono ?_
      rintro e w5 ⟨rfl, b5⟩
      have HB := Lib.hid (show Below w.heap.size w w5 from (((b1.trans (b2.mono b1.size)).trans (b3.mono (by have := b1.size; have := b2.size; omega))).trans (b4.mono (by have := b1.size; have := b2.size; have := b3.size; omega))).trans (b5.mono (by have := b1.size; have := b2.size; have := b3.size; have := b4.size; omega)))
      clear b1 b2 b3 b4 b5
      go_wp2
      go_ret
      exact ⟨ret_bool (by first | rfl | simp), HB.out⟩
    · go_enter Tryz.func6, Tryz.ntmps6
      go_wp2_with fail
      refine HI.out.mono ?_
      rintro e w1 ⟨rfl, b1⟩
      go_wp2_with fail
      refine (HJ.out _ b1).mono ?_
      rintro e w2 ⟨rfl, b2⟩
      go_wp2_with fail
      refine (zz_obj_true _).mono ?_
      rintro e w3 ⟨rfl, b3⟩
      go_wp2_with fail
      refine (zz_obj_false _).mono ?_
      rintro e w4 ⟨rfl, b4⟩
      go_wp2_with fail
      refine (zz_obj_nil _).mono ?_
      rintro e w5 ⟨rfl, b5⟩
      have HB := Lib.hid (show Below w.heap.size w w5 from (((b1.trans (b2.mono b1.size)).trans (b3.mono (by have := b1.size; have := b2.size; omega))).trans (b4.mono (by have := b1.size; have := b2.size; have := b3.size; omega))).trans (b5.mono (by have := b1.size; have := b2.size; have := b3.size; have := b4.size; omega)))
      clear b1 b2 b3 b4 b5
      go_wp2
      go_ret
      exact ⟨ret_bool (by first | rfl | simp), HB.out⟩
end Go.Proofs.YtfmjeacjfnlhiaaGreatFmt
