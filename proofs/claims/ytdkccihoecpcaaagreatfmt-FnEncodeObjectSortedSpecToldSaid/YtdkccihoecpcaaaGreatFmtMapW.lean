/- The map from keys to places, built by the export. Conditions: at most 4096 keys. -/
import Derived.Test.YtdkccihoecpcaaaGreatFmtMapP
import Derived.Test.YtdkccihoecpcaaaGreatFmtStrsA
import Derived.Maps.OwnSet
import Derived.WalkArith
import Derived.Outline
namespace Go.Proofs.YtdkccihoecpcaaaGreatFmt
open Go.RowKit Go.Maps Go.WideMaps Go
theorem lawK : Keyed Tryz.prog 9 := string_keyed Tryz.underlying9
/-- How an element reads: an int in an interface. -/
def anyInt (v : Value) : Option (DataW Unit × List MemPlace) :=
  match v with
  | .iface t (.int .i64 a) => if t = 3 then some (.lit (.int .i64 a), []) else none
  | _ => none
theorem anyInt_mk (a : Int) : anyInt (.iface 3 (.int .i64 a)) = some (.lit (.int .i64 a), []) := by simp [anyInt]
theorem anyInt_inv {v : Value} {y : DataW Unit × List MemPlace} (h : anyInt v = some y) : ∃ a : Int, v = .iface 3 (.int .i64 a) ∧ y = (.lit (.int .i64 a), []) := by
  unfold anyInt at h
  split at h
  · split at h
    · rename_i t a e
      subst e
      exact ⟨a, rfl, (Option.some.inj h).symm⟩
    · cases h
  · cases h
theorem run_makeMapN (n : Int) (w : World) : (Instr.makeMap 58 (some (.int .i64 n))).run Tryz.prog w = .ok (.map (some w.heap.size)) (w.alloc (.map #[] 0)) := by
  simp [Instr.makeMap, run_underlying Tryz.underlying58, asInt, asIntOf, Result.andThen]
end Go.Proofs.YtdkccihoecpcaaaGreatFmt
