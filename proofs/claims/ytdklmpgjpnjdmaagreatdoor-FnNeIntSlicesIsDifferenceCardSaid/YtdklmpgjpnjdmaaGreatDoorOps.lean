/- The comparison operators on any two values whose Compare is known. Conditions: none. -/
import Derived.Test.YtdklmpgjpnjdmaaGreatDoorArr
namespace Go.Proofs.YtdklmpgjpnjdmaaGreatDoor
open Go.RowKit Go
@[go_sem] theorem as_bool_plain (v : Value) (w : World) : (Instr.typeAssert (.iface 4 v) 20 4 false).run Tryz.prog w = .ok v w := by kernel_rfl
theorem retD_of {P : Program} {f : FuncId} {args : Array Value} {w : World} {v : Value} (h : Calls P f args w (Ret v w)) : Calls P f args w (RetD v w) :=
  h.mono fun _ _ ⟨he, hw⟩ => ⟨he, 0, hw.symm⟩
theorem ret_bool {a b : Bool} (h : a = b) : Ending.returned (.bool a) = .returned (.bool b) := by rw [h]
theorem funcOpGt_of (l r : Value) (n : Int) (w : World) (hc : Calls Tryz.prog 35 #[l, r] w (RetD (.int .i64 n) w)) :
    Calls Tryz.prog 34 #[.nilIface, l, r] w (RetD (.iface 4 (.bool (decide (0 < n)))) w) := by
  have H := Lib.hid hc
  clear hc
  go_enter Tryz.func34, Tryz.ntmps34
  go_wp2_with (go_at_call 35; refine H.out.mono ?_; rintro e w' ⟨rfl, nq, rfl⟩)
  all_goals (go_ret; exact ⟨by simp, _, rfl⟩)
theorem funcOpEq_of (l r : Value) (n : Int) (w : World) (hc : Calls Tryz.prog 35 #[l, r] w (RetD (.int .i64 n) w)) :
    Calls Tryz.prog 31 #[.nilIface, l, r] w (RetD (.iface 4 (.bool (n == 0))) w) := by
  have H := Lib.hid hc
  clear hc
  go_enter Tryz.func31, Tryz.ntmps31
  go_wp2_with (go_at_call 35; refine H.out.mono ?_; rintro e w' ⟨rfl, nq, rfl⟩)
  all_goals (go_ret; exact ⟨by simp, _, rfl⟩)
theorem funcOpNe_of (l r : Value) (n : Int) (w : World) (hc : Calls Tryz.prog 35 #[l, r] w (RetD (.int .i64 n) w)) :
    Calls Tryz.prog 32 #[.nilIface, l, r] w (RetD (.iface 4 (.bool (n != 0))) w) := by
  have H := Lib.hid hc
  clear hc
  go_enter Tryz.func32, Tryz.ntmps32
  go_wp2_with (go_at_call 35; refine H.out.mono ?_; rintro e w' ⟨rfl, nq, rfl⟩)
  all_goals (go_ret; exact ⟨by simp, _, rfl⟩)
end Go.Proofs.YtdklmpgjpnjdmaaGreatDoor
