/- Closed facts of the whole seat, which each told card asks, and the start at which the rows speak of something. Conditions: none. -/
import Derived.Test.YtdkccihoecpcaaaGreatFmtCards
import Derived.Test.YtdkccihoecpcaaaGreatFmtWit
import Derived.KernelRfl
import Derived.Stop.JoinedTold
import Derived.SevenTiedAt
namespace Go.Proofs.YtdkccihoecpcaaaGreatFmt
open Go Go.Stop
set_option maxRecDepth 100000 in
set_option maxHeartbeats 4000000 in
theorem seat_main : Tryz.pinned.checked.prog.mainIs = some (true, "23ed704817c54e9fbe6c5ffa07d4a23ae5669c340dfaba732f06bfd8960f2176".toList) := by kernel_rfl
set_option maxRecDepth 100000 in
set_option maxHeartbeats 4000000 in
theorem seat_looks : true = Tryz.pinned.checked.prog.looks [] := by kernel_rfl
set_option maxRecDepth 100000 in
set_option maxHeartbeats 4000000 in
theorem seat_mapsRowed : mapsRowed Tryz.pinned.checked.prog = true := by kernel_rfl
set_option maxRecDepth 100000 in
set_option maxHeartbeats 4000000 in
theorem seat_stops : Tryz.pinned.checked.prog.stops = ["fmt.Sprintf, its operands' methods called"] := by kernel_rfl
set_option maxRecDepth 100000 in
set_option maxHeartbeats 4000000 in
theorem seat_knobs : Tryz.pinned.checked.prog.stopKnobs = [] := by kernel_rfl
set_option maxRecDepth 100000 in
set_option maxHeartbeats 4000000 in
theorem seat_env : Tryz.pinned.checked.prog.envWorded = true := by kernel_rfl
set_option maxRecDepth 100000 in
set_option maxHeartbeats 4000000 in
theorem seat_enter : Tryz.pinned.checked.prog.mayEnter = true := by kernel_rfl
set_option maxRecDepth 100000 in
set_option maxHeartbeats 4000000 in
theorem seat_heard : Tryz.pinned.checked.prog.stopsHeard = true := by kernel_rfl
theorem seat_quiet (os : Os) : Stop.quiet Tryz.pinned.checked.prog os := by
  intro k hk
  rw [seat_knobs] at hk
  cases hk
/-- A start at which a row speaks of something, as the told form asks it. -/
theorem witness_told {H : Type} {enc : TypeId × Value → H} {C : Checked} {os : Os} {f : FuncId} {fn : Func} {s : OpenSpec} {conds : List PathCond} {apart : Bool} {laid : List (String × DataW Unit)} (w0 : World) (args : Array Value) (hos : w0.os = os)
    (hsh : (w0.forCall (fun _ _ => 0) ⟨#[], args, []⟩).Shaped C.prog)
    (hok : Input.okWideB C.prog (w0.forCall (fun _ _ => 0) ⟨#[], args, []⟩) f ⟨#[], args, []⟩ = true)
    (hrow : s.preRow enc C.prog fn conds apart laid (w0.forCall (fun _ _ => 0) ⟨#[], args, []⟩).memory args) (F : Stop.Interp) :
    ∃ (w : World) (tape : Tape) (i : Input), w.os = os ∧ (w.forCall tape i).Shaped C.prog ∧ i.vars = [] ∧ Input.okWide C.prog (w.forCall tape i) .any w.heap.size f i ∧
      s.preRow enc C.prog fn conds apart laid (w.forCall tape i).memory i.args ∧ ({ modest := false } : Assume).holds C.prog (lone (Frame.enter C.prog f i.args .normal) [] (w.forCall tape i)) ∧ F.answers tape :=
  ⟨w0, F.over fun _ _ => 0, ⟨#[], args, []⟩, hos, hsh, (Input.okWide_of_okWideB (base := 0) hok).1, (Input.okWide_of_okWideB hok).2, hrow, by
    simp only [Assume.holds]
    exact ⟨by simp, by simp, fun _ => F.over_modest Modest.zero, by simp, by simp⟩, F.over_answers _⟩
end Go.Proofs.YtdkccihoecpcaaaGreatFmt
