/- The messages on a key that is no string. Conditions: none. -/
import Derived.Test.YtfmjeacjfnlhiaaGreatFmtArrIdx
namespace Go.Proofs.YtfmjeacjfnlhiaaGreatFmt
open Go.RowKit Go
def numText (v : Int) : ByteArray := ⟨#[110, 117, 109, 98, 101, 114]⟩ ++ ⟨#[32, 40]⟩ ++ ⟨(Lib.itoa v).toArray⟩ ++ ⟨#[41]⟩
set_option maxRecDepth 100000 in
set_option maxHeartbeats 1600000 in
theorem tep_int (v : Int) (hv : -9223372036854775808 ≤ v ∧ v ≤ 9223372036854775807) (w : World) (htab : Tab w.heap.size w) : Calls Tryz.prog 49 #[.iface 3 (.int .i64 v)] w (RetB (.string (numText v)) w) := by
  have hlen := Lib.itoa_length_le v hv.1 hv.2
  have HP := Lib.hid (preview_any _ (Lib.itoa v) w (encOk_int w v hv htab) (by omega))
  have hs : (⟨(Lib.itoa v).toArray⟩ : ByteArray).size ≤ 21 := hlen
  have HT := Lib.hid (show numText v = ⟨#[110, 117, 109, 98, 101, 114]⟩ ++ ⟨#[32, 40]⟩ ++ ⟨(Lib.itoa v).toArray⟩ ++ ⟨#[41]⟩ from rfl)
  clear hlen htab
  generalize numText v = R at *
  generalize (⟨(Lib.itoa v).toArray⟩ : ByteArray) = X at *
  go_enter Tryz.func49, Tryz.ntmps49
  go_wp2_with (first | (go_at_call 61; refine (typeOf_int v _).mono ?_; rintro e w' ⟨rfl, rfl⟩) | (go_at_call 50; refine HP.out.mono ?_; rintro e w1 ⟨rfl, hb⟩))
  go_ret
  exact ⟨by rw [HT.out]; rfl, hb⟩
end Go.Proofs.YtfmjeacjfnlhiaaGreatFmt
