/- The escape of a well-formed string, read back: the law walked. Conditions: the decoder's tables lie as the row lists them. -/
import Derived.Test.YtlhndkonhjjcgaaGreatFmtJmS
import Derived.Test.YtlhndkonhjjcgaaGreatFmtEncStrS
import Derived.Test.YtlhndkonhjjcgaaGreatFmtJmB
import Derived.Test.YtlhndkonhjjcgaaGreatFmtEncStrB
import Derived.Test.YtlhndkonhjjcgaaGreatFmtUnqW
namespace Go.Proofs.YtlhndkonhjjcgaaGreatFmt
open Go.RowKit Go
set_option maxRecDepth 100000 in
set_option maxHeartbeats 1600000 in
theorem encS_str {B b eb : Nat} {l : List UInt8} {w : World} (h : StS B b eb l w) (s : ByteArray) (hs : s.size ≤ 1048576) (hl : l.length ≤ 1073741824) (hU : U8 B w) :
    Calls Tryz.prog 39 #[.pointer (some ⟨eb, 0, none⟩), .iface 9 (.string s)] w (WrS B b eb (l ++ quo s) (.tuple #[]) w) := by
  have HE := Lib.hid (encStrS h s hs hl hU)
  clear h hU
  go_enter Tryz.func39, Tryz.ntmps39
  go_wp2_with (go_at_call 51; refine HE.out.mono ?_; rintro e w' ⟨rfl, hS, hF⟩)
  go_end0
  exact ⟨rfl, hS, hF⟩
theorem writesS_str (w : World) (s : ByteArray) (hs : s.size ≤ 1048576) (hU : U8 w.heap.size w) : WritesS w (.iface 9 (.string s)) (quo s) := fun w0 b eb hb h => by
  have := encS_str h s hs (by simp) (u8_below hU hb)
  rwa [List.nil_append] at this
set_option maxRecDepth 100000 in
set_option maxHeartbeats 1600000 in
theorem encB_str {B b eb : Nat} {l : List UInt8} {w : World} (h : StB B b eb l w) (s : ByteArray) (hs : s.size ≤ 1048576) (hl : l.length ≤ 1073741824) (hU : U8 B w) :
    Calls Tryz.prog 39 #[.pointer (some ⟨eb, 0, none⟩), .iface 9 (.string s)] w (WrB B b eb (l ++ quo s) (.tuple #[]) w) := by
  have HE := Lib.hid (encStrB h s hs hl hU)
  clear h hU
  go_enter Tryz.func39, Tryz.ntmps39
  go_wp2_with (go_at_call 51; refine HE.out.mono ?_; rintro e w' ⟨rfl, hS, hF⟩)
  go_end0
  exact ⟨rfl, hS, hF⟩
theorem writesB_str (w : World) (s : ByteArray) (hs : s.size ≤ 1048576) (hU : U8 w.heap.size w) : WritesB w (.iface 9 (.string s)) (quo s) := fun w0 b eb hb h => by
  have := encB_str h s hs (by simp) (u8_below hU hb)
  rwa [List.nil_append] at this
set_option maxRecDepth 100000 in
theorem bytesR_yes (s : ByteArray) (hs : s.size ≤ 1048576) (w : World) : Calls Tryz.prog 9 #[.string s] w (Ret (.bool true) w) := by
  go_enter Tryz.func9, Tryz.ntmps9
  go_wp2
  go_ret
  exact ⟨rfl, rfl⟩
set_option maxRecDepth 100000 in
theorem bytesR_no (s : ByteArray) (h1 : 1048576 < s.size) (h2 : s.size ≤ 9223372036854775807) (w : World) : Calls Tryz.prog 9 #[.string s] w (Ret (.bool false) w) := by
  go_enter Tryz.func9, Tryz.ntmps9
  go_wp2
  go_ret
  exact ⟨rfl, rfl⟩
def LawPost (w : World) (e : Ending) (w' : World) : Prop := e = .returned (.bool true) ∧ Below w.heap.size w w'
set_option maxRecDepth 100000 in
theorem zzJ (s : ByteArray) (hs : s.size ≤ 1048576) (w : World) (hU : U8 w.heap.size w) : Calls Tryz.prog 11 #[.string s] w fun e w' => e = .returned (.string ⟨(quo s).toArray⟩) ∧ Below w.heap.size w w' := by
  have HJ := Lib.hid (jmS _ _ w (writesS_str w s hs hU))
  clear hU
  go_enter Tryz.func11, Tryz.ntmps11
  go_wp2_with (go_at_call 36; refine HJ.out.mono ?_; rintro e w' ⟨rfl, hb⟩)
  go_ret
  exact ⟨rfl, hb⟩
set_option maxRecDepth 100000 in
theorem zzM (s : ByteArray) (hs : s.size ≤ 1048576) (w : World) (hU : U8 w.heap.size w) : Calls Tryz.prog 14 #[.string s] w fun e w' => ∃ u, e = .returned (.tuple #[u, .nilIface]) ∧ Own w.heap.size u (quo s) w' ∧ Below w.heap.size w w' := by
  have HJ := Lib.hid (jmB _ _ w (writesB_str w s hs hU))
  clear hU
  go_enter Tryz.func14, Tryz.ntmps14
  go_wp2_with (go_at_call 38; refine HJ.out.mono ?_; rintro e w' ⟨⟨u, rfl, hu⟩, hb⟩)
  go_ret2
  exact ⟨u, rfl, hu, hb⟩
set_option maxRecDepth 100000 in
set_option maxHeartbeats 1600000 in
theorem lawR (s : ByteArray) (hm : s.size ≤ 9223372036854775807) (w : World) (hU : U8 w.heap.size w) : Calls Tryz.prog 3 #[.string s] w (LawPost w) := by
  by_cases hs : s.size ≤ 1048576
  · have HB := Lib.hid (bytesR_yes s hs)
    have HV := Lib.hid (valid_any s hs)
    cases hok : okAt s 0 with
    | false =>
      clear hU
      rw [hok] at HV
      clear hok
      go_enter Tryz.func3, Tryz.ntmps3
      go_wp2_with (go_at_call 9; refine (HB.out _).mono ?_; rintro e w' ⟨rfl, rfl⟩)
      try go_at_call 10
      refine (HV.out _).mono ?_
      rintro e w' ⟨rfl, rfl⟩
      go_wp2
      go_ret
      exact ⟨rfl, Below.refl _ _⟩
    | true =>
      rw [hok] at HV
      have HJ := Lib.hid (zzJ s hs w hU)
      have HM := Lib.hid (zzM s hs)
      have HU := Lib.hid hU
      have HQL := Lib.hid (quo_len s)
      obtain ⟨t, ht⟩ : ∃ t : ByteArray, t = ⟨(quo s).toArray⟩ := ⟨_, rfl⟩
      have HT := Lib.hid (show t.data.toList = quo s from by rw [ht])
      rw [← ht] at HJ
      have HQ := Lib.hid (unquote_any s hs hok t HT.out)
      clear ht hU hok
      go_enter Tryz.func3, Tryz.ntmps3
      go_wp2_with (go_at_call 9; refine (HB.out _).mono ?_; rintro e w' ⟨rfl, rfl⟩)
      try go_at_call 10
      refine (HV.out _).mono ?_
      rintro e w' ⟨rfl, rfl⟩
      go_wp2_with fail
      try go_at_call 11
      refine HJ.out.mono ?_
      rintro e w1 ⟨rfl, hb1⟩
      have HB1 := Lib.hid hb1
      clear hb1 HJ
      go_wp2_with fail
      try go_at_call 12
      refine (HQ.out _).mono ?_
      rintro e w2 ⟨v, rfl, ho, hb2⟩
      have HO := Lib.hid ho
      have HB2 := Lib.hid (HB1.out.trans (hb2.mono HB1.out.size))
      clear ho hb2 HB1
      go_wp2_with fail
      try go_at_call 13
      refine (sameSB _ s s.data.toList v _ rfl (by rw [← Lib.size_eq]; omega) HO.out).mono ?_
      rintro e w3 ⟨rfl, n3, rfl⟩
      have HB3 := Lib.hid (show Below w.heap.size w (w2.drewN n3) from HB2.out.trans ⟨rfl, rfl, rfl, Nat.le_refl _, fun _ _ => rfl⟩)
      have HU3 := Lib.hid (show U8 (w2.drewN n3).heap.size (w2.drewN n3) from u8_at (u8_below HU.out HB3.out))
      clear HB2 HO
      go_wp2_with fail
      try go_at_call 14
      refine (HM.out _ HU3.out).mono ?_
      rintro e w4 ⟨u, rfl, hu, hb4⟩
      have HO4 := Lib.hid hu
      have HB4 := Lib.hid (HB3.out.trans (hb4.mono HB3.out.size))
      clear hu hb4 HB3 HU3
      go_wp2_with fail
      try go_at_call 13
      refine (sameSB _ t (quo s) u _ HT.out (by have := HQL.out; omega) HO4.out).mono ?_
      rintro e w5 ⟨rfl, n5, rfl⟩
      go_wp2
      go_ret
      exact ⟨rfl, HB4.out.trans ⟨rfl, rfl, rfl, Nat.le_refl _, fun _ _ => rfl⟩⟩
  · have HB := Lib.hid (bytesR_no s (by omega) hm)
    clear hU
    go_enter Tryz.func3, Tryz.ntmps3
    go_wp2_with (go_at_call 9; refine (HB.out _).mono ?_; rintro e w' ⟨rfl, rfl⟩)
    go_ret
    exact ⟨rfl, Below.refl _ _⟩
end Go.Proofs.YtlhndkonhjjcgaaGreatFmt
