/- A float's text by strconv.AppendFloat, appended to the encoder's empty buffer: walked. Conditions: finite; the tables lie as the row lists them. -/
import Derived.Test.YtdkccihoecpcaaaGreatFmtFt
namespace Go.Proofs.YtdkccihoecpcaaaGreatFmt
open Go.RowKit Go
/-- The tables that the digits are made with, in every world that differs by new blocks alone. -/
def Tabs (B : Nat) (w : World) : Prop := (∀ W, Below w.heap.size w W → P10 B W) ∧ ∀ W, Below w.heap.size w W → Lib.TabIs Tryz.prog W "internal/strconv.uint64pow10" .u64 Lib.pow10Tab
theorem tabs_below {B : Nat} {w w' : World} (h : Tabs B w) (hb : Below w.heap.size w w') : Tabs B w' :=
  ⟨fun W hW => h.1 W (hb.trans (hW.mono hb.size)), fun W hW => h.2 W (hb.trans (hW.mono hb.size))⟩
theorem word_true' (r : Nat) : Ieee.double.word true r = 9223372036854775808 + r := by rw [word_nat]; rfl
theorem ftoaF (s : Bool) (B eb r : Nat) (cur : Array Value) (w : World) (hd : Dst eb cur [] w) (hr : r < Ieee.double.infRung) (hp : r = 0 ∨ (-30 ≤ fP r ∧ fP r ≤ 30)) (ht : Tabs B w) :
    Calls Tryz.prog 89 #[.slice (some ⟨eb, 1, none⟩) 0 64, .float .f64 (Ieee.double.word s r), .int .u8 102, .int .i64 (-1)] w (FmtPost eb cur (ftF s r) w) := by
  by_cases h0 : r = 0
  · subst h0
    have e : ∀ s, ftF s 0 = sgn s ++ [48] := fun s => by unfold ftF; rw [if_pos rfl]
    rw [e]
    cases s
    · exact ftoa_zp eb cur w hd
    · rw [word_true']; exact ftoa_zn eb cur w hd
  · obtain ⟨hp1, hp2⟩ := hp.resolve_left h0
    have e : ∀ s, ftF s r = fmF s (fD r) (fP r) := fun s => by unfold ftF; rw [if_neg h0]
    rw [e]
    by_cases hs : r < E52
    · cases s
      · exact ftoa_fps B eb r _ rfl cur w hd (by omega) hr hs hp1 hp2 ht.1 ht.2
      · exact ftoa_fns B eb r _ (word_true' r) cur w hd (by omega) hr hs hp1 hp2 ht.1 ht.2
    · cases s
      · exact ftoa_fpr B eb r _ rfl cur w hd (by omega) hr hs hp1 hp2 ht.1 ht.2
      · exact ftoa_fnr B eb r _ (word_true' r) cur w hd (by omega) hr hs hp1 hp2 ht.1 ht.2
theorem ftoaE (s : Bool) (B eb r : Nat) (cur : Array Value) (w : World) (hd : Dst eb cur [] w) (h0 : 0 < r) (hr : r < Ieee.double.infRung) (ht : Tabs B w) :
    Calls Tryz.prog 89 #[.slice (some ⟨eb, 1, none⟩) 0 64, .float .f64 (Ieee.double.word s r), .int .u8 101, .int .i64 (-1)] w (FmtPost eb cur (ftE s r) w) := by
  by_cases hs : r < E52
  · cases s
    · exact ftoa_eps B eb r _ rfl cur w hd (by omega) hr hs ht.1 ht.2
    · exact ftoa_ens B eb r _ (word_true' r) cur w hd (by omega) hr hs ht.1 ht.2
  · cases s
    · exact ftoa_epr B eb r _ rfl cur w hd (by omega) hr hs ht.1 ht.2
    · exact ftoa_enr B eb r _ (word_true' r) cur w hd (by omega) hr hs ht.1 ht.2
set_option maxRecDepth 100000 in
/-- What ftoa64 gives, AppendFloat gives. -/
theorem afI (b eb : Nat) (fm : Int) (cur : Array Value) (l : List UInt8) (w : World) (h : Calls Tryz.prog 89 #[.slice (some ⟨eb, 1, none⟩) 0 64, .float .f64 b, .int .u8 fm, .int .i64 (-1)] w (FmtPost eb cur l w)) :
    Calls Tryz.prog 67 #[.slice (some ⟨eb, 1, none⟩) 0 64, .float .f64 b, .int .u8 fm, .int .i64 (-1), .int .i64 64] w (FmtPost eb cur l w) := by
  have HQ := Lib.hid h
  clear h
  go_enter Tryz.func67, Tryz.ntmps67
  go_wp2_with (go_at_call 89; refine HQ.out.mono ?_; rintro e w' ⟨rfl, h⟩)
  go_ret
  exact ⟨rfl, h⟩
set_option maxRecDepth 100000 in
theorem afP (b eb : Nat) (fm : Int) (cur : Array Value) (l : List UInt8) (w : World) (h : Calls Tryz.prog 89 #[.slice (some ⟨eb, 1, none⟩) 0 64, .float .f64 b, .int .u8 fm, .int .i64 (-1)] w (FmtPost eb cur l w)) :
    Calls Tryz.prog 55 #[.slice (some ⟨eb, 1, none⟩) 0 64, .float .f64 b, .int .u8 fm, .int .i64 (-1), .int .i64 64] w (FmtPost eb cur l w) := by
  have HQ := Lib.hid (afI b eb fm cur l w h)
  clear h
  go_enter Tryz.func55, Tryz.ntmps55
  go_wp2_with (go_at_call 67; refine HQ.out.mono ?_; rintro e w' ⟨rfl, h⟩)
  go_ret
  exact ⟨rfl, h⟩
end Go.Proofs.YtdkccihoecpcaaaGreatFmt
