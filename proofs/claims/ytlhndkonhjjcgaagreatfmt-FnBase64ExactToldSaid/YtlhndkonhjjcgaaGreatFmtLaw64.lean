/- Base64 of a string: the law walked. Conditions: none. -/
import Derived.Test.YtlhndkonhjjcgaaGreatFmtZe
namespace Go.Proofs.YtlhndkonhjjcgaaGreatFmt
open Go.RowKit Go
set_option maxRecDepth 100000 in
theorem bytes64_yes (s : ByteArray) (hs : s.size ≤ 1048576) (w : World) : Calls Tryz.prog 25 #[.string s] w (Ret (.bool true) w) := by
  go_enter Tryz.func25, Tryz.ntmps25
  go_wp2
  go_ret
  exact ⟨rfl, rfl⟩
set_option maxRecDepth 100000 in
theorem bytes64_no (s : ByteArray) (h1 : 1048576 < s.size) (h2 : s.size ≤ 9223372036854775807) (w : World) : Calls Tryz.prog 25 #[.string s] w (Ret (.bool false) w) := by
  go_enter Tryz.func25, Tryz.ntmps25
  go_wp2
  go_ret
  exact ⟨rfl, rfl⟩
def LawPost64 (w : World) (e : Ending) (w' : World) : Prop := e = .returned (.bool true) ∧ Below w.heap.size w w'
set_option maxRecDepth 100000 in
set_option maxHeartbeats 1600000 in
theorem law64 (s : ByteArray) (hm : s.size ≤ 9223372036854775807) (w : World) : Calls Tryz.prog 6 #[.string s] w (LawPost64 w) := by
  by_cases hs : s.size ≤ 1048576
  · have HB := Lib.hid (bytes64_yes s hs)
    have HZ := Lib.hid (zz64 s hs w)
    have HE := Lib.hid (zzEnc s hs)
    go_enter Tryz.func6, Tryz.ntmps6
    go_wp2_with (go_at_call 25; refine (HB.out _).mono ?_; rintro e w' ⟨rfl, rfl⟩)
    try go_at_call 26
    refine HZ.out.mono ?_
    rintro e w1 ⟨rfl, hb1⟩
    have HB1 := Lib.hid hb1
    clear hb1
    generalize (⟨(b64 alph s).toArray⟩ : ByteArray) = t at HE
    go_wp2_with fail
    try go_at_call 27
    refine (HE.out _).mono ?_
    rintro e w2 ⟨rfl, hb2⟩
    have HB2 := Lib.hid (HB1.out.trans (hb2.mono HB1.out.size))
    clear hb2 HB1
    go_wp2
    go_ret
    exact ⟨by first | rfl | simp, HB2.out⟩
  · have HB := Lib.hid (bytes64_no s (by omega) hm)
    go_enter Tryz.func6, Tryz.ntmps6
    go_wp2_with (go_at_call 25; refine (HB.out _).mono ?_; rintro e w' ⟨rfl, rfl⟩)
    go_ret
    exact ⟨rfl, Below.refl _ _⟩
end Go.Proofs.YtlhndkonhjjcgaaGreatFmt
