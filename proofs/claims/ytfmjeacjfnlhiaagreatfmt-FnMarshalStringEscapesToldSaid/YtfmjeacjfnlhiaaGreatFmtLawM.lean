/- The escape of a string, through Marshal: the law walked. Conditions: the decoder's tables lie as the row lists them. -/
import Derived.Test.YtfmjeacjfnlhiaaGreatFmtJmB
import Derived.Test.YtfmjeacjfnlhiaaGreatFmtEncStrB
import Derived.Test.YtfmjeacjfnlhiaaGreatFmtQuo
namespace Go.Proofs.YtfmjeacjfnlhiaaGreatFmt
open Go.RowKit Go
set_option maxRecDepth 100000 in
set_option maxHeartbeats 1600000 in
theorem encB_str {B b eb : Nat} {l : List UInt8} {w : World} (h : StB B b eb l w) (s : ByteArray) (hs : s.size ≤ 1048576) (hl : l.length ≤ 1073741824) (hU : U8 B w) :
    Calls Tryz.prog 43 #[.pointer (some ⟨eb, 0, none⟩), .iface 9 (.string s)] w (WrB B b eb (l ++ quo s) (.tuple #[]) w) := by
  have HE := Lib.hid (encStrB h s hs hl hU)
  clear h hU
  go_enter Tryz.func43, Tryz.ntmps43
  go_wp2_with (go_at_call 55; refine HE.out.mono ?_; rintro e w' ⟨rfl, hS, hF⟩)
  go_end0
  exact ⟨rfl, hS, hF⟩
theorem writesB_str (w : World) (s : ByteArray) (hs : s.size ≤ 1048576) (hU : U8 w.heap.size w) : WritesB w (.iface 9 (.string s)) (quo s) := fun w0 b eb hb h => by
  have := encB_str h s hs (by simp) (u8_below hU hb)
  rwa [List.nil_append] at this
set_option maxRecDepth 100000 in
theorem bytesM_yes (s : ByteArray) (hs : s.size ≤ 1048576) (w : World) : Calls Tryz.prog 35 #[.string s] w (Ret (.bool true) w) := by
  go_enter Tryz.func35, Tryz.ntmps35
  go_wp2
  go_ret
  exact ⟨rfl, rfl⟩
set_option maxRecDepth 100000 in
theorem bytesM_no (s : ByteArray) (h1 : 1048576 < s.size) (h2 : s.size ≤ 9223372036854775807) (w : World) : Calls Tryz.prog 35 #[.string s] w (Ret (.bool false) w) := by
  go_enter Tryz.func35, Tryz.ntmps35
  go_wp2
  go_ret
  exact ⟨rfl, rfl⟩
def LawPost (w : World) (e : Ending) (w' : World) : Prop := e = .returned (.bool true) ∧ Below w.heap.size w w'
set_option maxRecDepth 100000 in
theorem zzM (s : ByteArray) (hs : s.size ≤ 1048576) (w : World) (hU : U8 w.heap.size w) : Calls Tryz.prog 36 #[.string s] w fun e w' => ∃ u, e = .returned (.tuple #[u, .nilIface]) ∧ Own w.heap.size u (quo s) w' ∧ Below w.heap.size w w' := by
  have HJ := Lib.hid (jmB _ _ w (writesB_str w s hs hU))
  clear hU
  go_enter Tryz.func36, Tryz.ntmps36
  go_wp2_with (go_at_call 48; refine HJ.out.mono ?_; rintro e w' ⟨⟨u, rfl, hu⟩, hb⟩)
  go_ret2
  exact ⟨u, rfl, hu, hb⟩
set_option maxRecDepth 100000 in
set_option maxHeartbeats 1600000 in
theorem lawM (s : ByteArray) (hm : s.size ≤ 9223372036854775807) (w : World) (hU : U8 w.heap.size w) : Calls Tryz.prog 12 #[.string s] w (LawPost w) := by
  by_cases hs : s.size ≤ 1048576
  · have HB := Lib.hid (bytesM_yes s hs)
    have HJ := Lib.hid (zzM s hs w hU)
    have HQ := Lib.hid (quote_any s hs)
    have HL := Lib.hid (quo_len s)
    clear hU
    go_enter Tryz.func12, Tryz.ntmps12
    go_wp2_with (go_at_call 35; refine (HB.out _).mono ?_; rintro e w' ⟨rfl, rfl⟩)
    try go_at_call 36
    refine HJ.out.mono ?_
    rintro e w1 ⟨u, rfl, hu, hb1⟩
    have HU1 := Lib.hid hu
    clear hu
    go_wp2_with fail
    try go_at_call 34
    refine (HQ.out _).mono ?_
    rintro e w2 ⟨v, rfl, ho, hb2⟩
    have HO := Lib.hid ho
    have HU2 := Lib.hid (own_old HU1.out hb2)
    have HB2 := Lib.hid (hb1.trans (hb2.mono hb1.size))
    clear ho hb1 hb2 HU1
    go_wp2_with fail
    try go_at_call 37
    refine (sameBB _ _ (quo s) u v _ (by have := HL.out; omega) HU2.out HO.out).mono ?_
    rintro e w3 ⟨rfl, n, rfl⟩
    go_wp2
    go_ret
    exact ⟨rfl, HB2.out.trans ⟨rfl, rfl, rfl, Nat.le_refl _, fun _ _ => rfl⟩⟩
  · have HB := Lib.hid (bytesM_no s (by omega) hm)
    clear hU
    go_enter Tryz.func12, Tryz.ntmps12
    go_wp2_with (go_at_call 35; refine (HB.out _).mono ?_; rintro e w' ⟨rfl, rfl⟩)
    go_ret
    exact ⟨rfl, Below.refl _ _⟩
end Go.Proofs.YtfmjeacjfnlhiaaGreatFmt
