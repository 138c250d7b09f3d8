/- The message on an index that is too large: the law walked. Conditions: the table of powers of ten lies as the row lists it. -/
import Derived.Test.YtfmjeacjfnlhiaaGreatFmtLawObj
namespace Go.Proofs.YtfmjeacjfnlhiaaGreatFmt
open Go.RowKit Go
/-- The message on the index v. -/
def bigText (v : Int) : ByteArray := ⟨#[97, 114, 114, 97, 121, 32, 105, 110, 100, 101, 120, 32, 116, 111, 111, 32, 108, 97, 114, 103, 101, 58, 32]⟩ ++ ⟨(Lib.itoa v).toArray⟩
set_option maxRecDepth 100000 in
theorem zz_big_int (v : Int) (hv : -9223372036854775808 ≤ v ∧ v ≤ 9223372036854775807) (w : World) (htab : Tab w.heap.size w) : Calls Tryz.prog 20 #[.int .i64 v] w (RetB (.string (bigText v)) w) := by
  have hlen := Lib.itoa_length_le v hv.1 hv.2
  have HP := Lib.hid (show ∀ o, Calls Tryz.prog 50 #[.iface 3 (.int .i64 v)] (w.alloc o) (RetB (.string ⟨(Lib.itoa v).toArray⟩) (w.alloc o)) from fun o => preview_any _ (Lib.itoa v) _ (encOk_int _ v hv (tab_new htab ((Below.refl _ _).alloc (Nat.le_refl _) _))) (by omega))
  have hs : (⟨(Lib.itoa v).toArray⟩ : ByteArray).size ≤ 21 := hlen
  have HE := Lib.hid (show bigText v = ⟨#[97, 114, 114, 97, 121, 32, 105, 110, 100, 101, 120, 32, 116, 111, 111, 32, 108, 97, 114, 103, 101, 58, 32]⟩ ++ ⟨(Lib.itoa v).toArray⟩ from rfl)
  clear htab hlen
  generalize bigText v = R at *
  generalize (⟨(Lib.itoa v).toArray⟩ : ByteArray) = X at *
  go_enter Tryz.func20, Tryz.ntmps20
  go_wp2_with (first | (go_at_call 40; go_in) | (go_at_call 50; refine (HP.out _).mono ?_; rintro e w1 ⟨rfl, hb⟩))
  go_ret
  exact ⟨by rw [HE.out]; rfl, ((Below.refl _ _).alloc (Nat.le_refl _) _).trans (hb.mono (by simp))⟩
set_option maxRecDepth 100000 in
set_option maxHeartbeats 1600000 in
theorem lawBig (v : Int) (hv : -9223372036854775808 ≤ v ∧ v ≤ 9223372036854775807) (w : World) (htab : Tab w.heap.size w) : Calls Tryz.prog 5 #[.int .i64 v] w (RetB (.bool true) w) := by
  by_cases h : v < 134217728
  · clear htab
    go_enter Tryz.func5, Tryz.ntmps5
    go_wp2
    go_ret
    exact ⟨rfl, Below.refl _ _⟩
  · have HZ := Lib.hid (zz_big_int v hv w htab)
    have HI := Lib.hid (fun w => zzItoa64_any v hv w)
    have hs : (⟨(Lib.itoa v).toArray⟩ : ByteArray).size ≤ 21 := Lib.itoa_length_le v hv.1 hv.2
    have HE := Lib.hid (show bigText v = ⟨#[97, 114, 114, 97, 121, 32, 105, 110, 100, 101, 120, 32, 116, 111, 111, 32, 108, 97, 114, 103, 101, 58, 32]⟩ ++ ⟨(Lib.itoa v).toArray⟩ from rfl)
    clear htab
    generalize bigText v = R at *
    generalize (⟨(Lib.itoa v).toArray⟩ : ByteArray) = X at *
    go_enter Tryz.func5, Tryz.ntmps5
    go_wp2_with (first | (go_at_call 20; refine HZ.out.mono ?_; rintro e w1 ⟨rfl, hb⟩) | (go_at_call 19; refine (HI.out _).mono ?_; rintro e w2 ⟨rfl, hb2⟩))
    go_ret
    exact ⟨ret_bool (by rw [HE.out]; simp), hb.trans (hb2.mono hb.size)⟩
end Go.Proofs.YtfmjeacjfnlhiaaGreatFmt
