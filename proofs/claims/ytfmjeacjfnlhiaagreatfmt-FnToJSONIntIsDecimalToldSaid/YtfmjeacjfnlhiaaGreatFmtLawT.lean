/- The numeral of an int, through tojson: the law walked. Conditions: the table of powers of ten lies as the row lists it. -/
import Derived.Test.YtfmjeacjfnlhiaaGreatFmtJmS
import Derived.Test.YtfmjeacjfnlhiaaGreatFmtItoa98
namespace Go.Proofs.YtfmjeacjfnlhiaaGreatFmt
open Go.RowKit Go
theorem writesS_int (w : World) (v : Int) (hv : -9223372036854775808 ≤ v ∧ v ≤ 9223372036854775807) (htab : Tab w.heap.size w) : WritesS w (.iface 3 (.int .i64 v)) (Lib.itoa v) := fun w0 b eb hb h => by
  have := encS_int h v hv (tab_below htab hb) (by simp)
  rwa [List.nil_append] at this
set_option maxRecDepth 100000 in
theorem zzT (v : Int) (hv : -9223372036854775808 ≤ v ∧ v ≤ 9223372036854775807) (w : World) (htab : Tab w.heap.size w) : Calls Tryz.prog 26 #[.int .i64 v] w fun e w' => e = .returned (.tuple #[.string ⟨(Lib.itoa v).toArray⟩, .bool true]) ∧ Below w.heap.size w w' := by
  have HJ := Lib.hid (jmS _ _ w (writesS_int w v hv htab))
  clear htab
  go_enter Tryz.func26, Tryz.ntmps26
  go_wp2_with (first | (go_at_call 42; go_in) | (go_at_call 45; refine HJ.out.mono ?_; rintro e w' ⟨rfl, hb⟩))
  go_ret2
  exact ⟨rfl, hb⟩
def LawPost (w : World) (e : Ending) (w' : World) : Prop := e = .returned (.bool true) ∧ Below w.heap.size w w'
set_option maxRecDepth 100000 in
set_option maxHeartbeats 1600000 in
theorem lawT (v : Int) (hv : -9223372036854775808 ≤ v ∧ v ≤ 9223372036854775807) (w : World) (htab : Tab w.heap.size w) : Calls Tryz.prog 9 #[.int .i64 v] w (LawPost w) := by
  have HJ := Lib.hid (zzT v hv w htab)
  have HI := Lib.hid (itoa98_any v hv)
  clear htab
  generalize (⟨(Lib.itoa v).toArray⟩ : ByteArray) = X at *
  go_enter Tryz.func9, Tryz.ntmps9
  go_wp2_with (go_at_call 26; refine HJ.out.mono ?_; rintro e w1 ⟨rfl, hb⟩)
  go_at_call 27
  refine (HI.out _).mono ?_
  rintro e w2 ⟨rfl, hb2⟩
  go_wp2
  go_ret
  exact ⟨ret_bool (by first | rfl | simp), hb.trans (hb2.mono hb.size)⟩
end Go.Proofs.YtfmjeacjfnlhiaaGreatFmt
