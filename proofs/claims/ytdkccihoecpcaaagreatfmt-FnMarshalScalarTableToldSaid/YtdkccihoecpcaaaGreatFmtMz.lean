/- Marshal of null, a bool, an int and a float, as the law calls it. Conditions: the tables lie as the row lists them. -/
import Derived.Test.YtdkccihoecpcaaaGreatFmtMf
import Derived.Test.YtdkccihoecpcaaaGreatFmtOwn
namespace Go.Proofs.YtdkccihoecpcaaaGreatFmt
open Go.RowKit Go
theorem tabs_of {w : World} (hP : P10 w.heap.size w) (hT : Tab w.heap.size w) : Tabs w.heap.size w :=
  ⟨fun _ hW => p10_below hP hW, fun _ hW => (tab_touch hT (Touch.of_below hW) (by simp)).1⟩
def MarPost (L : List UInt8) (w : World) (e : Ending) (w' : World) : Prop := ∃ u, e = .returned (.tuple #[u, .nilIface]) ∧ Own w.heap.size u L w' ∧ Below w.heap.size w w'
theorem mar_of {v : Value} {L : List UInt8} {w : World} (h : WritesB w v L) : Calls Tryz.prog 32 #[v] w (MarPost L w) :=
  (jmB v L w h).mono fun _ _ ⟨⟨u, h1, h2⟩, h3⟩ => ⟨u, h1, h2, h3⟩
set_option maxRecDepth 100000 in
theorem zzMf (Y : Nat) (L : List UInt8) (w : World) (h : WritesB w (.iface 22 (.float .f64 Y)) L) : Calls Tryz.prog 20 #[.float .f64 Y] w (MarPost L w) := by
  have HJ := Lib.hid (mar_of h)
  clear h
  go_enter Tryz.func20, Tryz.ntmps20
  go_wp2_with (go_at_call 32; refine HJ.out.mono ?_; rintro e w' ⟨u, rfl, hu, hb⟩)
  go_ret2
  exact ⟨u, rfl, hu, hb⟩
set_option maxRecDepth 100000 in
theorem zzMi (v : Int) (L : List UInt8) (w : World) (h : WritesB w (.iface 3 (.int .i64 v)) L) : Calls Tryz.prog 18 #[.int .i64 v] w (MarPost L w) := by
  have HJ := Lib.hid (mar_of h)
  clear h
  go_enter Tryz.func18, Tryz.ntmps18
  go_wp2_with (go_at_call 32; refine HJ.out.mono ?_; rintro e w' ⟨u, rfl, hu, hb⟩)
  go_ret2
  exact ⟨u, rfl, hu, hb⟩
set_option maxRecDepth 100000 in
theorem zzMb (v : Bool) (L : List UInt8) (w : World) (h : WritesB w (.iface 4 (.bool v)) L) : Calls Tryz.prog 17 #[.bool v] w (MarPost L w) := by
  have HJ := Lib.hid (mar_of h)
  clear h
  go_enter Tryz.func17, Tryz.ntmps17
  go_wp2_with (go_at_call 32; refine HJ.out.mono ?_; rintro e w' ⟨u, rfl, hu, hb⟩)
  go_ret2
  exact ⟨u, rfl, hu, hb⟩
set_option maxRecDepth 100000 in
theorem zzMn (L : List UInt8) (w : World) (h : WritesB w .nilIface L) : Calls Tryz.prog 15 #[] w (MarPost L w) := by
  have HJ := Lib.hid (mar_of h)
  clear h
  go_enter Tryz.func15, Tryz.ntmps15
  go_wp2_with (go_at_call 32; refine HJ.out.mono ?_; rintro e w' ⟨u, rfl, hu, hb⟩)
  go_ret2
  exact ⟨u, rfl, hu, hb⟩
theorem writesB_int (w : World) (v : Int) (hv : -9223372036854775808 ≤ v ∧ v ≤ 9223372036854775807) (hT : Tab w.heap.size w) : WritesB w (.iface 3 (.int .i64 v)) (Lib.itoa v) := fun w0 b eb hb h => by
  have := encB_int h v hv (tab_touch hT (Touch.of_below hb) (by simp)) (by simp)
  rwa [List.nil_append] at this
set_option maxRecDepth 100000 in
set_option maxHeartbeats 1600000 in
theorem encB_nil {B b eb : Nat} {l : List UInt8} {w : World} (h : StB B b eb l w) (hl : l.length + 64 ≤ 140737488355328) :
    Calls Tryz.prog 33 #[.pointer (some ⟨eb, 0, none⟩), .nilIface] w (WrB B b eb (l ++ [110, 117, 108, 108]) (.tuple #[]) w) := by
  have c0 := h.c0
  have HS := Lib.hid (wsB h ⟨#[110, 117, 108, 108]⟩ (by have : (⟨#[110, 117, 108, 108]⟩ : ByteArray).size = 4 := rfl; omega))
  clear h
  go_enter Tryz.func33, Tryz.ntmps33
  go_wp2_with (go_at_call 291; refine HS.out.mono ?_; rintro e w2 ⟨rfl, hS, hF⟩)
  go_end0
  exact ⟨rfl, hS, hF⟩
set_option maxRecDepth 100000 in
set_option maxHeartbeats 1600000 in
theorem encB_true {B b eb : Nat} {l : List UInt8} {w : World} (h : StB B b eb l w) (hl : l.length + 64 ≤ 140737488355328) :
    Calls Tryz.prog 33 #[.pointer (some ⟨eb, 0, none⟩), .iface 4 (.bool true)] w (WrB B b eb (l ++ [116, 114, 117, 101]) (.tuple #[]) w) := by
  have c0 := h.c0
  have HS := Lib.hid (wsB h ⟨#[116, 114, 117, 101]⟩ (by have : (⟨#[116, 114, 117, 101]⟩ : ByteArray).size = 4 := rfl; omega))
  clear h
  go_enter Tryz.func33, Tryz.ntmps33
  go_wp2_with (go_at_call 291; refine HS.out.mono ?_; rintro e w2 ⟨rfl, hS, hF⟩)
  go_end0
  exact ⟨rfl, hS, hF⟩
set_option maxRecDepth 100000 in
set_option maxHeartbeats 1600000 in
theorem encB_false {B b eb : Nat} {l : List UInt8} {w : World} (h : StB B b eb l w) (hl : l.length + 64 ≤ 140737488355328) :
    Calls Tryz.prog 33 #[.pointer (some ⟨eb, 0, none⟩), .iface 4 (.bool false)] w (WrB B b eb (l ++ [102, 97, 108, 115, 101]) (.tuple #[]) w) := by
  have c0 := h.c0
  have HS := Lib.hid (wsB h ⟨#[102, 97, 108, 115, 101]⟩ (by have : (⟨#[102, 97, 108, 115, 101]⟩ : ByteArray).size = 5 := rfl; omega))
  clear h
  go_enter Tryz.func33, Tryz.ntmps33
  go_wp2_with (go_at_call 291; refine HS.out.mono ?_; rintro e w2 ⟨rfl, hS, hF⟩)
  go_end0
  exact ⟨rfl, hS, hF⟩
theorem writesB_nil (w : World) : WritesB w .nilIface [110, 117, 108, 108] := fun _ _ _ _ h => by
  have := encB_nil h (by simp)
  rwa [List.nil_append] at this
theorem writesB_bool (w : World) (v : Bool) : WritesB w (.iface 4 (.bool v)) (if v then [116, 114, 117, 101] else [102, 97, 108, 115, 101]) := fun _ _ _ _ h => by
  cases v
  · have := encB_false h (by simp)
    rwa [List.nil_append] at this
  · have := encB_true h (by simp)
    rwa [List.nil_append] at this
/-- The text that Marshal gives a float. -/
def marT (s : Bool) (r : Nat) : List UInt8 := if 9218868437227405312 < r then [110, 117, 108, 108] else if r = 9218868437227405312 then clE (ftE s 9218868437227405311) else mfT s r
theorem writesB_float (w : World) (s : Bool) (r : Nat) (hr : r < 9223372036854775808) (hp : 4517329193108106637 ≤ r → r < 4921056587992461136 → -30 ≤ fP r ∧ fP r ≤ 30) (hP : P10 w.heap.size w) (hT : Tab w.heap.size w) : WritesB w (.iface 22 (.float .f64 (Ieee.double.word s r))) (marT s r) := by
  refine writesB_flt w _ _ ?_
  intro B b eb w1 h hb
  have ht : Tabs w.heap.size w1 := tabs_below (tabs_of hP hT) hb
  unfold marT
  by_cases h1 : 9218868437227405312 < r
  · rw [if_pos h1]
    have hn : ∀ w, Calls Tryz.prog 53 #[.float .f64 (Ieee.double.word s r)] w (Ret (.bool true) w) := fun w => by
      have h := isNaN_any s r hr w
      rwa [decide_eq_true h1] at h
    have := encB_nan h _ hn (by simp)
    rwa [List.nil_append] at this
  · rw [if_neg h1]
    by_cases h2 : r = 9218868437227405312
    · subst h2
      rw [if_pos rfl]
      have := encB_inf h s _ ht (by simp)
      rwa [List.nil_append] at this
    · rw [if_neg h2]
      have := encB_fin h s r (by omega) hp _ ht (by simp)
      rwa [List.nil_append] at this
end Go.Proofs.YtdkccihoecpcaaaGreatFmt
