/- math.IsNaN and math.Abs, walked. Conditions: none. -/
import Derived.Test.YtdkccihoecpcaaaGreatFmtModfPlain
import Derived.Test.YtdkccihoecpcaaaGreatFmtSc
import Derived.Laws.Externs
namespace Go.Proofs.YtdkccihoecpcaaaGreatFmt
open Go.RowKit Go
@[go_sem] theorem run_mbits (b : Nat) (w : World) : (callFunc 66 #[.float .f64 b]).run Tryz.prog w = .ok (.value (.int .u64 b)) w := by
  rw [run_callFunc_extern Tryz.func66 (by kernel_rfl) (by kernel_rfl) (by kernel_rfl) (e := Extern.MathFloatBits.float64bits) (by kernel_rfl)]
  rfl
@[go_sem] theorem run_mfrom (n : Int) (w : World) : (callFunc 65 #[.int .u64 n]).run Tryz.prog w = .ok (.value (.float .f64 n.toNat)) w := by
  rw [run_callFunc_extern Tryz.func65 (by kernel_rfl) (by kernel_rfl) (by kernel_rfl) (e := Extern.MathFloatBits.float64frombits) (by kernel_rfl)]
  rfl
theorem isNaN_any (s : Bool) (r : Nat) (h : r < 9223372036854775808) (w : World) : Calls Tryz.prog 53 #[.float .f64 (Ieee.double.word s r)] w (Ret (.bool (decide (9218868437227405312 < r))) w) := by
  have hg := ne_self s r h
  generalize Ieee.double.word s r = X at *
  go_enter Tryz.func53, Tryz.ntmps53
  go_wp2
  go_ret
  exact ⟨by rw [← hg]; rfl, rfl⟩
theorem abs_any (s : Bool) (r : Nat) (h : r < 9223372036854775808) (w : World) : Calls Tryz.prog 54 #[.float .f64 (Ieee.double.word s r)] w (Ret (.float .f64 r) w) := by
  have hb := abs_bits s r h
  generalize Ieee.double.word s r = X at *
  go_enter Tryz.func54, Tryz.ntmps54
  go_wp2
  go_ret
  exact ⟨by first | rfl | simp, rfl⟩
end Go.Proofs.YtdkccihoecpcaaaGreatFmt
