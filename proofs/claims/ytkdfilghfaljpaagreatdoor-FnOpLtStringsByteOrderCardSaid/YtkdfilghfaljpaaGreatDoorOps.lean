/- The comparison operators on any two values whose Compare is known. Conditions: none. -/
import Derived.Test.YtkdfilghfaljpaaGreatDoorArr
namespace Go.Proofs.YtkdfilghfaljpaaGreatDoor
open Go.RowKit Go
@[go_sem] theorem as_bool_plain (v : Value) (w : World) : (Instr.typeAssert (.iface 4 v) 20 4 false).run Tryz.prog w = .ok v w := by kernel_rfl
theorem retD_of {P : Program} {f : FuncId} {args : Array Value} {w : World} {v : Value} (h : Calls P f args w (Ret v w)) : Calls P f args w (RetD v w) :=
  h.mono fun _ _ ⟨he, hw⟩ => ⟨he, 0, hw.symm⟩
theorem ret_bool {a b : Bool} (h : a = b) : Ending.returned (.bool a) = .returned (.bool b) := by rw [h]
theorem funcOpGe_of (l r : Value) (n : Int) (w : World) (hc : Calls Tryz.prog 28 #[l, r] w (RetD (.int .i64 n) w)) :
    Calls Tryz.prog 24 #[.nilIface, l, r] w (RetD (.iface 4 (.bool (decide (0 ≤ n)))) w) := by
  have H := Lib.hid hc
  clear hc
  go_enter Tryz.func24, Tryz.ntmps24
  go_wp2_with (go_at_call 28; refine H.out.mono ?_; rintro e w' ⟨rfl, nq, rfl⟩)
  all_goals (go_ret; exact ⟨by simp, _, rfl⟩)
theorem funcOpLe_of (l r : Value) (n : Int) (w : World) (hc : Calls Tryz.prog 28 #[l, r] w (RetD (.int .i64 n) w)) :
    Calls Tryz.prog 25 #[.nilIface, l, r] w (RetD (.iface 4 (.bool (decide (n ≤ 0)))) w) := by
  have H := Lib.hid hc
  clear hc
  go_enter Tryz.func25, Tryz.ntmps25
  go_wp2_with (go_at_call 28; refine H.out.mono ?_; rintro e w' ⟨rfl, nq, rfl⟩)
  all_goals (go_ret; exact ⟨by simp, _, rfl⟩)
theorem funcOpLt_of (l r : Value) (n : Int) (w : World) (hc : Calls Tryz.prog 28 #[l, r] w (RetD (.int .i64 n) w)) :
    Calls Tryz.prog 26 #[.nilIface, l, r] w (RetD (.iface 4 (.bool (decide (n < 0)))) w) := by
  have H := Lib.hid hc
  clear hc
  go_enter Tryz.func26, Tryz.ntmps26
  go_wp2_with (go_at_call 28; refine H.out.mono ?_; rintro e w' ⟨rfl, nq, rfl⟩)
  all_goals (go_ret; exact ⟨by simp, _, rfl⟩)
end Go.Proofs.YtkdfilghfaljpaaGreatDoor
