/- The world in which the listed package-level variables hold what the rows list: closed facts, shared by the laws. Conditions: none. -/
import Derived.Test.YtdkccihoecpcaaaGreatFmtRows
import Derived.Test.YtdkccihoecpcaaaGreatFmtPost
import Derived.Lay
import Derived.SizedLaws
import Derived.LaidMore
import Derived.JoinedOf
namespace Go.Proofs.YtdkccihoecpcaaaGreatFmt
open Go
theorem and_mk {a b : Bool} (h : a = true) (k : b = true) : (a && b) = true := by rw [h, k]; rfl
noncomputable def seatLaid0 : List (String × DataW Unit) := Rows.fnRepeatStringTooLargeBoundedRow.laid
theorem wit_plain0 : (seatLaid0.all fun x => x.2.handleName?.isNone) = true := by kernel_rfl
set_option maxRecDepth 100000 in
theorem wit_zip0 (os : Os) (args : Array Value) : ((World.laidAll Tryz.prog os seatLaid0).forCall (fun _ _ => 0) ⟨#[], args, []⟩).variablesZipB Tryz.prog = true := by kernel_rfl
set_option maxRecDepth 100000 in
theorem wit_rest0 (os : Os) (args : Array Value) : (((World.laidAll Tryz.prog os seatLaid0).forCall (fun _ _ => 0) ⟨#[], args, []⟩).heap.toList.drop Tryz.prog.globals.size).take ((begin Tryz.prog (fun _ _ => 0) default).world.heap.size - Tryz.prog.globals.size) =
    (begin Tryz.prog (fun _ _ => 0) default).world.heap.toList.drop Tryz.prog.globals.size := by kernel_rfl
set_option maxRecDepth 100000 in
theorem wit_fits0 (os : Os) : (World.holding Tryz.prog os ⟨#[], #[], []⟩).layFits Tryz.prog seatLaid0 [] = true := by kernel_rfl
set_option maxRecDepth 100000 in
theorem wit_ifaces0 (os : Os) : (World.holding Tryz.prog os ⟨#[], #[], []⟩).layIfaces Tryz.prog seatLaid0 (World.laidAll Tryz.prog os seatLaid0) = true := by kernel_rfl
theorem wit_shaped0 (os : Os) (args : Array Value) : ((World.laidAll Tryz.prog os seatLaid0).forCall (fun _ _ => 0) ⟨#[], args, []⟩).Shaped Tryz.prog := World.shaped_of_ZipB (wit_zip0 os args) (wit_rest0 os args)
theorem wit_laid0 (os : Os) (args : Array Value) : laidMetH Tryz.prog seatLaid0 ((World.laidAll Tryz.prog os seatLaid0).forCall (fun _ _ => 0) ⟨#[], args, []⟩).memory := by
  rw [MakeChecks.laidMetH_plain _ _ _ wit_plain0]; exact laidMet_laidAll _ (wit_fits0 os) (wit_ifaces0 os)
end Go.Proofs.YtdkccihoecpcaaaGreatFmt
