/- Closed facts of the row of FnMarshalScalarTable, and of the start at which it is shown to speak of something. Conditions: none. -/
import Derived.Test.YtdkccihoecpcaaaGreatFmtWit
import Derived.SevenTiedAt
import Derived.Test.YtdkccihoecpcaaaGreatFmtCards
namespace Go.Proofs.YtdkccihoecpcaaaGreatFmt
open Go
set_option maxRecDepth 100000 in
set_option maxHeartbeats 4000000 in
theorem Sc_wf : Rows.fnMarshalScalarTableRow.wfByText (OpenSpec.ofChange Rows.fnMarshalScalarTableSpec) = true := by kernel_rfl
set_option maxRecDepth 100000 in
set_option maxHeartbeats 4000000 in
theorem Sc_tie : namedTie Tryz.pinned.checked.prog Rows.fnMarshalScalarTableRow.namedList (OpenSpec.ofChange Rows.fnMarshalScalarTableSpec).vars = true := by kernel_rfl
set_option maxRecDepth 100000 in
set_option maxHeartbeats 4000000 in
theorem Sc_named : Tryz.pinned.checked.prog.funcNamed Rows.fnMarshalScalarTableRow.func = some 5 := by kernel_rfl
set_option maxRecDepth 100000 in
set_option maxHeartbeats 4000000 in
theorem Sc_read : (Tryz.f5.params.toList.all fun t => Tryz.pinned.checked.prog.readableRec t) = true := by kernel_rfl
set_option maxRecDepth 100000 in
set_option maxHeartbeats 4000000 in
theorem Sc_inp : Rows.fnMarshalScalarTableRow.inPlace = Tryz.pinned.checked.prog.inPlace 5 := by kernel_rfl
set_option maxRecDepth 100000 in
set_option maxHeartbeats 4000000 in
theorem Sc_unf : Rows.fnMarshalScalarTableRow.unfollowed = Tryz.pinned.checked.prog.unfollowed 5 := by kernel_rfl
set_option maxRecDepth 100000 in
set_option maxHeartbeats 4000000 in
theorem Sc_rec : Rows.fnMarshalScalarTableRow.recurses = Tryz.pinned.checked.prog.recurses 5 := by kernel_rfl
set_option maxRecDepth 100000 in
set_option maxHeartbeats 4000000 in
theorem Sc_vars : Rows.fnMarshalScalarTableRow.named = Tryz.pinned.checked.prog.varsNamed 5 := by kernel_rfl
set_option maxRecDepth 100000 in
set_option maxHeartbeats 4000000 in
theorem Sc_maps : Rows.fnMarshalScalarTableRow.maps = (Tryz.f5.params.toList ++ (OpenSpec.ofChange Rows.fnMarshalScalarTableSpec).bare.plain.varTypes Tryz.pinned.checked.prog).any (Tryz.pinned.checked.prog.mapsRec ·) := by kernel_rfl
set_option maxRecDepth 100000 in
set_option maxHeartbeats 4000000 in
theorem Sc_ifs : Rows.fnMarshalScalarTableRow.ifaces = (Tryz.f5.params.toList ++ (OpenSpec.ofChange Rows.fnMarshalScalarTableSpec).bare.plain.varTypes Tryz.pinned.checked.prog).any (Tryz.pinned.checked.prog.ifacesRec ·) := by kernel_rfl
set_option maxRecDepth 100000 in
set_option maxHeartbeats 4000000 in
theorem Sc_mo : Rows.fnMarshalScalarTableRow.mapsOut = Tryz.pinned.checked.prog.mapsAmong Tryz.f5.resultTypes.toList := by kernel_rfl
set_option maxRecDepth 100000 in
set_option maxHeartbeats 4000000 in
theorem Sc_lo : Rows.fnMarshalScalarTableRow.loops = (Tryz.f5.params.toList ++ (OpenSpec.ofChange Rows.fnMarshalScalarTableSpec).bare.plain.varTypes Tryz.pinned.checked.prog).any (Tryz.pinned.checked.prog.loopsFrom ·) := by kernel_rfl
set_option maxRecDepth 100000 in
set_option maxHeartbeats 4000000 in
theorem Sc_wk : Rows.fnMarshalScalarTableRow.wideKeys = (Tryz.f5.params.toList ++ (OpenSpec.ofChange Rows.fnMarshalScalarTableSpec).bare.plain.varTypes Tryz.pinned.checked.prog ++ Tryz.f5.resultTypes.toList).any (Tryz.pinned.checked.prog.wideKeysFrom ·) := by kernel_rfl
set_option maxRecDepth 100000 in
set_option maxHeartbeats 4000000 in
theorem Sc_vr : ((OpenSpec.ofChange Rows.fnMarshalScalarTableSpec).vars.all fun n => Tryz.pinned.checked.prog.varReadable n) = true := by kernel_rfl
set_option maxRecDepth 100000 in
set_option maxHeartbeats 4000000 in
theorem Sc_si : (Tryz.f5.params.toList.all fun t => !Tryz.pinned.checked.prog.wantsStandIn t) = true := by kernel_rfl
set_option maxRecDepth 100000 in
set_option maxHeartbeats 4000000 in
theorem Sc_goes : false = Rows.fnMarshalScalarTableRow.goesBy Tryz.pinned.checked.prog := by kernel_rfl
set_option maxRecDepth 100000 in
set_option maxHeartbeats 4000000 in
theorem Sc_m4 : (Tryz.f5.resultTypes.toList.all fun t => Tryz.pinned.checked.prog.readableRec t && decide (t < Tryz.pinned.checked.prog.types.size)) = true := by kernel_rfl
set_option maxRecDepth 100000 in
set_option maxHeartbeats 4000000 in
theorem Sc_m6 : Rows.fnMarshalScalarTableRow.ifacesOut = Tryz.f5.resultTypes.toList.any (Tryz.pinned.checked.prog.ifacesRec ·) := by kernel_rfl
set_option maxRecDepth 100000 in
set_option maxHeartbeats 4000000 in
theorem Sc_m7 : Rows.fnMarshalScalarTableRow.loopsOut = Tryz.f5.resultTypes.toList.any (Tryz.pinned.checked.prog.loopsFrom ·) := by kernel_rfl
set_option maxRecDepth 100000 in
set_option maxHeartbeats 4000000 in
theorem Sc_m8 : Rows.fnMarshalScalarTableRow.kinds = (if Rows.fnMarshalScalarTableRow.domain.isEmpty then [] else Tryz.f5.params.toList.map fun t => match Tryz.pinned.checked.prog.underlying t with | some (.int k) => some k | _ => none) := by kernel_rfl
set_option maxRecDepth 100000 in
set_option maxHeartbeats 4000000 in
theorem Sc_m9 : Rows.fnMarshalScalarTableRow.pinned = Rows.fnMarshalScalarTableRow.pinnedBy := by kernel_rfl
set_option maxRecDepth 100000 in
set_option maxHeartbeats 4000000 in
theorem Sc_m10 : Rows.fnMarshalScalarTableRow.plainKeys = Tryz.pinned.checked.prog.plainKeys := by kernel_rfl
set_option maxRecDepth 100000 in
set_option maxHeartbeats 4000000 in
theorem Sc_m11 : Rows.fnMarshalScalarTableRow.lifted = Tryz.pinned.checked.prog.liftsFinal := by kernel_rfl
set_option maxRecDepth 100000 in
set_option maxHeartbeats 4000000 in
theorem Sc_m12 : Tryz.pinned.checked.prog.make = some Rows.fnMarshalScalarTableRow.make := by kernel_rfl
set_option maxRecDepth 100000 in
set_option maxHeartbeats 4000000 in
theorem Sc_v1 : Rows.fnMarshalScalarTableRow.veiled = (Tryz.f5.params.toList ++ (OpenSpec.ofChange Rows.fnMarshalScalarTableSpec).bare.plain.varTypes Tryz.pinned.checked.prog ++ Tryz.f5.resultTypes.toList).any (Tryz.pinned.checked.prog.veiledRec ·) := by kernel_rfl
set_option maxRecDepth 100000 in
set_option maxHeartbeats 4000000 in
theorem Sc_v2 : Rows.fnMarshalScalarTableRow.veiledFits Tryz.pinned.checked.prog Tryz.f5.params.toList (Tryz.f5.params.toList ++ (OpenSpec.ofChange Rows.fnMarshalScalarTableSpec).bare.plain.varTypes Tryz.pinned.checked.prog ++ Tryz.f5.resultTypes.toList) = true := by kernel_rfl
set_option maxRecDepth 100000 in
set_option maxHeartbeats 4000000 in
theorem Sc_ok (os : Os) : Input.okWideB Tryz.prog ((World.laidAll Tryz.prog os seatLaid0).forCall (fun _ _ => 0) ⟨#[], #[.int .i64 0, .bool false, .float .f64 0], []⟩) 5 ⟨#[], #[.int .i64 0, .bool false, .float .f64 0], []⟩ = true := by kernel_rfl
set_option maxRecDepth 100000 in
set_option maxHeartbeats 4000000 in
theorem Sc_pre (os : Os) (H : Type) (enc : TypeId × Value → H) : (OpenSpec.ofChange Rows.fnMarshalScalarTableSpec).bare.preB enc Tryz.prog Tryz.f5 [] false ((World.laidAll Tryz.prog os seatLaid0).forCall (fun _ _ => 0) ⟨#[], #[.int .i64 0, .bool false, .float .f64 0], []⟩).memory #[.int .i64 0, .bool false, .float .f64 0] 8 = true := by kernel_rfl
set_option maxRecDepth 100000 in
set_option maxHeartbeats 4000000 in
theorem Sc_sz (os : Os) (H : Type) (enc : TypeId × Value → H) : (OpenSpec.ofChange Rows.fnMarshalScalarTableSpec).bare.sizedB enc Tryz.prog Tryz.f5 false ((World.laidAll Tryz.prog os seatLaid0).forCall (fun _ _ => 0) ⟨#[], #[.int .i64 0, .bool false, .float .f64 0], []⟩).memory #[.int .i64 0, .bool false, .float .f64 0] 8 = true := by kernel_rfl
end Go.Proofs.YtdkccihoecpcaaaGreatFmt
