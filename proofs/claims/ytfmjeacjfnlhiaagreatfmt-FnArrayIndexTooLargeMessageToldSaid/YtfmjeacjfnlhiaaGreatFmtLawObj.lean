/- The messages on a key that is no string: the law's table walked. Conditions: the table of powers of ten lies as the row lists it. -/
import Derived.Test.YtfmjeacjfnlhiaaGreatFmtObjL
namespace Go.Proofs.YtfmjeacjfnlhiaaGreatFmt
open Go.RowKit Go
set_option maxRecDepth 100000 in
set_option maxHeartbeats 1600000 in
theorem lawObj (k : Int) (b : Bool) (v : Int) (hv : -9223372036854775808 ≤ v ∧ v ≤ 9223372036854775807) (hk : 0 ≤ k ∧ k ≤ 255) (w : World) (htab : Tab w.heap.size w) : Calls Tryz.prog 4 #[.int .u8 k, .bool b, .int .i64 v] w (RetB (.bool true) w) := by
  by_cases h : k % 3 = 0
  · have h2 : (k % 3 == 0) = true := by simpa using h
    go_enter Tryz.func4, Tryz.ntmps4
    go_wp2_with (go_at_call 16; refine (zz_obj_nil _).mono ?_; rintro e w1 ⟨rfl, hb⟩)
    go_ret
    exact ⟨ret_bool (by first | rfl | decide +kernel), hb⟩
  · have h2 : (k % 3 == 0) = false := by simpa using h
    by_cases h' : k % 3 = 1
    · have h3 : (k % 3 == 1) = true := by simpa using h'
      cases b
      · have hx : ∀ w, Calls Tryz.prog 15 #[.bool false] w (Ret (.string ⟨#[102, 97, 108, 115, 101]⟩) w) := fun w => boolText_any false w
        go_enter Tryz.func4, Tryz.ntmps4
        go_wp2_with (first | (go_at_call 17; refine (zz_obj_false _).mono ?_; rintro e w1 ⟨rfl, hb⟩) | (go_at_call 15; refine (hx _).mono ?_; rintro e w' ⟨rfl, rfl⟩))
        go_ret
        exact ⟨ret_bool (by first | rfl | decide +kernel), hb⟩
      · have hx : ∀ w, Calls Tryz.prog 15 #[.bool true] w (Ret (.string ⟨#[116, 114, 117, 101]⟩) w) := fun w => boolText_any true w
        go_enter Tryz.func4, Tryz.ntmps4
        go_wp2_with (first | (go_at_call 17; refine (zz_obj_true _).mono ?_; rintro e w1 ⟨rfl, hb⟩) | (go_at_call 15; refine (hx _).mono ?_; rintro e w' ⟨rfl, rfl⟩))
        go_ret
        exact ⟨ret_bool (by first | rfl | decide +kernel), hb⟩
    · have h3 : (k % 3 == 1) = false := by simpa using h'
      have HZ := Lib.hid (zz_obj_int v hv w htab)
      have HI := Lib.hid (fun w => zzItoa64_any v hv w)
      have hs : (⟨(Lib.itoa v).toArray⟩ : ByteArray).size ≤ 21 := Lib.itoa_length_le v hv.1 hv.2
      have HE := Lib.hid (show objText v = ⟨#[101, 120, 112, 101, 99, 116, 101, 100, 32, 97, 32, 115, 116, 114, 105, 110, 103, 32, 102, 111, 114, 32, 111, 98, 106, 101, 99, 116, 32, 107, 101, 121, 32, 98, 117, 116, 32, 103, 111, 116, 58, 32, 110, 117, 109, 98, 101, 114, 32, 40]⟩ ++ ⟨(Lib.itoa v).toArray⟩ ++ ⟨#[41]⟩ from rfl)
      clear htab
      generalize (⟨(Lib.itoa v).toArray⟩ : ByteArray) = X at *
      generalize objText v = R at *
      go_enter Tryz.func4, Tryz.ntmps4
      go_wp2_with (first | (go_at_call 18; refine HZ.out.mono ?_; rintro e w1 ⟨rfl, hb⟩) | (go_at_call 19; refine (HI.out _).mono ?_; rintro e w2 ⟨rfl, hb2⟩))
      go_ret
      exact ⟨ret_bool (by rw [HE.out]; simp), hb.trans (hb2.mono hb.size)⟩
end Go.Proofs.YtfmjeacjfnlhiaaGreatFmt
