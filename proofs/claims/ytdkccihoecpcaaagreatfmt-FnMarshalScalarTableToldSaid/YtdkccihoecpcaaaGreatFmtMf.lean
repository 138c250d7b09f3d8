/- Marshal of a float: what it returns. Conditions: the tables lie as the row lists them; the digits' place is bounded where the format is f. -/
import Derived.Test.YtdkccihoecpcaaaGreatFmtEn2
import Derived.Test.YtdkccihoecpcaaaGreatFmtJmB
namespace Go.Proofs.YtdkccihoecpcaaaGreatFmt
open Go.RowKit Go
set_option maxRecDepth 100000 in
set_option maxHeartbeats 1600000 in
theorem encB_via {B b eb : Nat} {L : List UInt8} {w : World} (Y : Nat) (h : Calls Tryz.prog 42 #[.pointer (some ⟨eb, 0, none⟩), .float .f64 Y] w (WrB B b eb L (.tuple #[]) w)) :
    Calls Tryz.prog 33 #[.pointer (some ⟨eb, 0, none⟩), .iface 22 (.float .f64 Y)] w (WrB B b eb L (.tuple #[]) w) := by
  have HE := Lib.hid h
  clear h
  go_enter Tryz.func33, Tryz.ntmps33
  go_wp2_with (go_at_call 42; refine HE.out.mono ?_; rintro e w' ⟨rfl, hS, hF⟩)
  go_end0
  exact ⟨rfl, hS, hF⟩
/-- The text that Marshal gives a finite float. -/
def mfT (s : Bool) (r : Nat) : List UInt8 := if r = 0 ∨ (4517329193108106637 ≤ r ∧ r < 4921056587992461136) then ftF s r else clE (ftE s r)
theorem encB_fin {B b eb : Nat} {l : List UInt8} {w : World} (h : StB B b eb l w) (s : Bool) (r : Nat) (hr : r ≤ 9218868437227405311) (hp : 4517329193108106637 ≤ r → r < 4921056587992461136 → -30 ≤ fP r ∧ fP r ≤ 30) (T : Nat) (ht : Tabs T w) (hl : l.length + 64 ≤ 140737488355328) :
    Calls Tryz.prog 42 #[.pointer (some ⟨eb, 0, none⟩), .float .f64 (Ieee.double.word s r)] w (WrB B b eb (l ++ mfT s r) (.tuple #[]) w) := by
  have hn : ∀ w, Calls Tryz.prog 53 #[.float .f64 (Ieee.double.word s r)] w (Ret (.bool false) w) := fun w => by
    have h := isNaN_any s r (by omega) w
    rwa [decide_eq_false (by omega)] at h
  unfold mfT
  by_cases hf : r = 0 ∨ (4517329193108106637 ≤ r ∧ r < 4921056587992461136)
  · rw [if_pos hf]
    exact encB_ff h s r (by omega) (by omega) (by by_cases e : r = 0; exact .inl e; exact .inr (hp (by omega) (by omega))) T ht hl
  · rw [if_neg hf]
    exact encB_fe h s r (by omega) (by omega) hr T ht hl _ _ hn (fun w => run_maxf s r hr _ _ w) (fun w => run_minf s r hr _ _ w)
theorem writesB_flt (w : World) (Y : Nat) (L : List UInt8) (H : ∀ {B b eb : Nat} {w1 : World}, StB B b eb [] w1 → Below w.heap.size w w1 → Calls Tryz.prog 42 #[.pointer (some ⟨eb, 0, none⟩), .float .f64 Y] w1 (WrB B b eb L (.tuple #[]) w1)) : WritesB w (.iface 22 (.float .f64 Y)) L := fun _ _ _ hb h => encB_via Y (H h hb)
end Go.Proofs.YtdkccihoecpcaaaGreatFmt
