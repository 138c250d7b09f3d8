/- encodeFloat64 over a buffer: NaN and the infinities. Conditions: the tables lie as the row lists them. -/
import Derived.Test.YtdkccihoecpcaaaGreatFmtEj
namespace Go.Proofs.YtdkccihoecpcaaaGreatFmt
open Go.RowKit Go
theorem max_pinf (w : World) : (Builtin.max_ #[22, 22 ] 22 #[.float .f64 9218868437227405312, .float .f64 18442240474082181119]).run Tryz.prog w = .ok (.float .f64 9218868437227405312) w := by
  have ho : FloatKind.f64.format.order 9218868437227405312 18442240474082181119 = some .gt := by decide +kernel
  simp [Builtin.max_, Builtin.max2, ho]
theorem min_pinf (w : World) : (Builtin.min_ #[22, 22 ] 22 #[.float .f64 9218868437227405312, .float .f64 9218868437227405311]).run Tryz.prog w = .ok (.float .f64 (Ieee.double.word false 9218868437227405311)) w := by
  have ho : FloatKind.f64.format.order 9218868437227405312 9218868437227405311 = some .gt := by decide +kernel
  rw [w_hi]
  simp [Builtin.min_, Builtin.min2, ho]
theorem max_ninf (w : World) : (Builtin.max_ #[22, 22 ] 22 #[.float .f64 18442240474082181120, .float .f64 18442240474082181119]).run Tryz.prog w = .ok (.float .f64 18442240474082181119) w := by
  have ho : FloatKind.f64.format.order 18442240474082181120 18442240474082181119 = some .lt := by decide +kernel
  simp [Builtin.max_, Builtin.max2, ho]
theorem min_ninf (w : World) : (Builtin.min_ #[22, 22 ] 22 #[.float .f64 18442240474082181119, .float .f64 9218868437227405311]).run Tryz.prog w = .ok (.float .f64 (Ieee.double.word true 9218868437227405311)) w := by
  have ho : FloatKind.f64.format.order 18442240474082181119 9218868437227405311 = some .lt := by decide +kernel
  rw [w_lo]
  simp [Builtin.min_, Builtin.min2, ho]
/-- An infinity is written as the greatest. -/
theorem encB_inf {B b eb : Nat} {l : List UInt8} {w : World} (h : StB B b eb l w) (s : Bool) (T : Nat) (ht : Tabs T w) (hl : l.length + 64 ≤ 140737488355328) :
    Calls Tryz.prog 42 #[.pointer (some ⟨eb, 0, none⟩), .float .f64 (Ieee.double.word s 9218868437227405312)] w (WrB B b eb (l ++ clE (ftE s 9218868437227405311)) (.tuple #[]) w) := by
  have hn : ∀ w, Calls Tryz.prog 53 #[.float .f64 (Ieee.double.word s 9218868437227405312)] w (Ret (.bool false) w) := fun w => by
    have h := isNaN_any s 9218868437227405312 (by omega) w
    rwa [decide_eq_false (by omega)] at h
  cases s
  · exact encB_fe h false 9218868437227405311 (by omega) (by omega) (by omega) T ht hl _ _ hn max_pinf min_pinf
  · exact encB_fe h true 9218868437227405311 (by omega) (by omega) (by omega) T ht hl _ _ hn max_ninf min_ninf
set_option maxRecDepth 100000 in
set_option maxHeartbeats 1600000 in
theorem encB_nan {B b eb : Nat} {l : List UInt8} {w : World} (h : StB B b eb l w) (Y : Nat) (hY : ∀ w, Calls Tryz.prog 53 #[.float .f64 Y] w (Ret (.bool true) w)) (hl : l.length + 64 ≤ 140737488355328) :
    Calls Tryz.prog 42 #[.pointer (some ⟨eb, 0, none⟩), .float .f64 Y] w (WrB B b eb (l ++ [110, 117, 108, 108]) (.tuple #[]) w) := by
  have c0 := h.c0
  have HN := Lib.hid hY
  have HS := Lib.hid (wsB h ⟨#[110, 117, 108, 108]⟩ (by have : (⟨#[110, 117, 108, 108]⟩ : ByteArray).size = 4 := rfl; omega))
  clear h hY
  go_enter Tryz.func42, Tryz.ntmps42
  go_wp2_with (go_at_call 53; refine (HN.out _).mono ?_; rintro e w' ⟨rfl, rfl⟩)
  try go_at_call 291
  refine HS.out.mono ?_
  rintro e w2 ⟨rfl, hS, hF⟩
  go_wp2
  refine bodyPost_ret (results_none rfl _ _ _) rfl ?_
  exact ⟨rfl, hS, hF⟩
end Go.Proofs.YtdkccihoecpcaaaGreatFmt
