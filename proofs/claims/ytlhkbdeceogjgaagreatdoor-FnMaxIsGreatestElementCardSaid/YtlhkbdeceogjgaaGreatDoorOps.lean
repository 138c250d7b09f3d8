/- The comparison operators on any two values whose Compare is known. Conditions: none. -/
import Derived.Test.YtlhkbdeceogjgaaGreatDoorArr
namespace Go.Proofs.YtlhkbdeceogjgaaGreatDoor
open Go.RowKit Go
@[go_sem] theorem as_bool_plain (v : Value) (w : World) : (Instr.typeAssert (.iface 4 v) 20 4 false).run Tryz.prog w = .ok v w := by kernel_rfl
theorem retD_of {P : Program} {f : FuncId} {args : Array Value} {w : World} {v : Value} (h : Calls P f args w (Ret v w)) : Calls P f args w (RetD v w) :=
  h.mono fun _ _ ⟨he, hw⟩ => ⟨he, 0, hw.symm⟩
theorem ret_bool {a b : Bool} (h : a = b) : Ending.returned (.bool a) = .returned (.bool b) := by rw [h]
end Go.Proofs.YtlhkbdeceogjgaaGreatDoor
