/- The escape of a string, through jsonMarshal: the law walked. Conditions: the decoder's tables lie as the row lists them. -/
import Derived.Test.YtfmjeacjfnlhiaaGreatFmtJmS
import Derived.Test.YtfmjeacjfnlhiaaGreatFmtEncStrS
import Derived.Test.YtfmjeacjfnlhiaaGreatFmtQuo
namespace Go.Proofs.YtfmjeacjfnlhiaaGreatFmt
open Go.RowKit Go
set_option maxRecDepth 100000 in
set_option maxHeartbeats 1600000 in
theorem encS_str {B b eb : Nat} {l : List UInt8} {w : World} (h : StS B b eb l w) (s : ByteArray) (hs : s.size ≤ 1048576) (hl : l.length ≤ 1073741824) (hU : U8 B w) :
    Calls Tryz.prog 43 #[.pointer (some ⟨eb, 0, none⟩), .iface 9 (.string s)] w (WrS B b eb (l ++ quo s) (.tuple #[]) w) := by
  have HE := Lib.hid (encStrS h s hs hl hU)
  clear h hU
  go_enter Tryz.func43, Tryz.ntmps43
  go_wp2_with (go_at_call 55; refine HE.out.mono ?_; rintro e w' ⟨rfl, hS, hF⟩)
  go_end0
  exact ⟨rfl, hS, hF⟩
theorem writesS_str (w : World) (s : ByteArray) (hs : s.size ≤ 1048576) (hU : U8 w.heap.size w) : WritesS w (.iface 9 (.string s)) (quo s) := fun w0 b eb hb h => by
  have := encS_str h s hs (by simp) (u8_below hU hb)
  rwa [List.nil_append] at this
set_option maxRecDepth 100000 in
theorem bytesJ_yes (s : ByteArray) (hs : s.size ≤ 1048576) (w : World) : Calls Tryz.prog 32 #[.string s] w (Ret (.bool true) w) := by
  go_enter Tryz.func32, Tryz.ntmps32
  go_wp2
  go_ret
  exact ⟨rfl, rfl⟩
set_option maxRecDepth 100000 in
theorem bytesJ_no (s : ByteArray) (h1 : 1048576 < s.size) (h2 : s.size ≤ 9223372036854775807) (w : World) : Calls Tryz.prog 32 #[.string s] w (Ret (.bool false) w) := by
  go_enter Tryz.func32, Tryz.ntmps32
  go_wp2
  go_ret
  exact ⟨rfl, rfl⟩
def LawPost (w : World) (e : Ending) (w' : World) : Prop := e = .returned (.bool true) ∧ Below w.heap.size w w'
set_option maxRecDepth 100000 in
theorem zzJ (s : ByteArray) (hs : s.size ≤ 1048576) (w : World) (hU : U8 w.heap.size w) : Calls Tryz.prog 33 #[.string s] w fun e w' => e = .returned (.string ⟨(quo s).toArray⟩) ∧ Below w.heap.size w w' := by
  have HJ := Lib.hid (jmS _ _ w (writesS_str w s hs hU))
  clear hU
  go_enter Tryz.func33, Tryz.ntmps33
  go_wp2_with (go_at_call 45; refine HJ.out.mono ?_; rintro e w' ⟨rfl, hb⟩)
  go_ret
  exact ⟨rfl, hb⟩
set_option maxRecDepth 100000 in
set_option maxHeartbeats 1600000 in
theorem lawJ (s : ByteArray) (hm : s.size ≤ 9223372036854775807) (w : World) (hU : U8 w.heap.size w) : Calls Tryz.prog 11 #[.string s] w (LawPost w) := by
  by_cases hs : s.size ≤ 1048576
  · have HB := Lib.hid (bytesJ_yes s hs)
    have HJ := Lib.hid (zzJ s hs w hU)
    have HQ := Lib.hid (quote_any s hs)
    have HL := Lib.hid (quo_len s)
    clear hU
    obtain ⟨t, ht⟩ : ∃ t : ByteArray, t = ⟨(quo s).toArray⟩ := ⟨_, rfl⟩
    have HT := Lib.hid (show t.data.toList = quo s from by rw [ht])
    rw [← ht] at HJ
    clear ht
    go_enter Tryz.func11, Tryz.ntmps11
    go_wp2_with (go_at_call 32; refine (HB.out _).mono ?_; rintro e w' ⟨rfl, rfl⟩)
    try go_at_call 33
    refine HJ.out.mono ?_
    rintro e w1 ⟨rfl, hb1⟩
    go_wp2_with fail
    try go_at_call 34
    refine (HQ.out _).mono ?_
    rintro e w2 ⟨v, rfl, ho, hb2⟩
    have HO := Lib.hid ho
    have HB2 := Lib.hid (hb1.trans (hb2.mono hb1.size))
    clear ho hb1 hb2
    go_wp2_with fail
    try go_at_call 31
    refine (sameSB _ t (quo s) v _ HT.out (by have := HL.out; omega) HO.out).mono ?_
    rintro e w3 ⟨rfl, n, rfl⟩
    go_wp2
    go_ret
    exact ⟨rfl, HB2.out.trans ⟨rfl, rfl, rfl, Nat.le_refl _, fun _ _ => rfl⟩⟩
  · have HB := Lib.hid (bytesJ_no s (by omega) hm)
    clear hU
    go_enter Tryz.func11, Tryz.ntmps11
    go_wp2_with (go_at_call 32; refine (HB.out _).mono ?_; rintro e w' ⟨rfl, rfl⟩)
    go_ret
    exact ⟨rfl, Below.refl _ _⟩
end Go.Proofs.YtfmjeacjfnlhiaaGreatFmt
