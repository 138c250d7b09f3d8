/- Closed facts of the row of FnToJSONIntIsDecimal, and of the start at which it is shown to speak of something. Conditions: none. -/
import Derived.Test.YtfmjeacjfnlhiaaGreatFmtWit
import Derived.SevenTiedAt
import Derived.Test.YtfmjeacjfnlhiaaGreatFmtCards
namespace Go.Proofs.YtfmjeacjfnlhiaaGreatFmt
open Go
set_option maxRecDepth 100000 in
set_option maxHeartbeats 4000000 in
theorem ToJ_wf : Rows.fnToJSONIntIsDecimalRow.wfByText (OpenSpec.ofChange Rows.fnToJSONIntIsDecimalSpec) = true := by kernel_rfl
set_option maxRecDepth 100000 in
set_option maxHeartbeats 4000000 in
theorem ToJ_tie : namedTie Tryz.pinned.checked.prog Rows.fnToJSONIntIsDecimalRow.namedList (OpenSpec.ofChange Rows.fnToJSONIntIsDecimalSpec).vars = true := by kernel_rfl
set_option maxRecDepth 100000 in
set_option maxHeartbeats 4000000 in
theorem ToJ_named : Tryz.pinned.checked.prog.funcNamed Rows.fnToJSONIntIsDecimalRow.func = some 9 := by kernel_rfl
set_option maxRecDepth 100000 in
set_option maxHeartbeats 4000000 in
theorem ToJ_read : (Tryz.f9.params.toList.all fun t => Tryz.pinned.checked.prog.readableRec t) = true := by kernel_rfl
set_option maxRecDepth 100000 in
set_option maxHeartbeats 4000000 in
theorem ToJ_inp : Rows.fnToJSONIntIsDecimalRow.inPlace = Tryz.pinned.checked.prog.inPlace 9 := by kernel_rfl
set_option maxRecDepth 100000 in
set_option maxHeartbeats 4000000 in
theorem ToJ_unf : Rows.fnToJSONIntIsDecimalRow.unfollowed = Tryz.pinned.checked.prog.unfollowed 9 := by kernel_rfl
set_option maxRecDepth 100000 in
set_option maxHeartbeats 4000000 in
theorem ToJ_rec : Rows.fnToJSONIntIsDecimalRow.recurses = Tryz.pinned.checked.prog.recurses 9 := by kernel_rfl
set_option maxRecDepth 100000 in
set_option maxHeartbeats 4000000 in
theorem ToJ_vars : Rows.fnToJSONIntIsDecimalRow.named = Tryz.pinned.checked.prog.varsNamed 9 := by kernel_rfl
set_option maxRecDepth 100000 in
set_option maxHeartbeats 4000000 in
theorem ToJ_maps : Rows.fnToJSONIntIsDecimalRow.maps = (Tryz.f9.params.toList ++ (OpenSpec.ofChange Rows.fnToJSONIntIsDecimalSpec).bare.plain.varTypes Tryz.pinned.checked.prog).any (Tryz.pinned.checked.prog.mapsRec ·) := by kernel_rfl
set_option maxRecDepth 100000 in
set_option maxHeartbeats 4000000 in
theorem ToJ_ifs : Rows.fnToJSONIntIsDecimalRow.ifaces = (Tryz.f9.params.toList ++ (OpenSpec.ofChange Rows.fnToJSONIntIsDecimalSpec).bare.plain.varTypes Tryz.pinned.checked.prog).any (Tryz.pinned.checked.prog.ifacesRec ·) := by kernel_rfl
set_option maxRecDepth 100000 in
set_option maxHeartbeats 4000000 in
theorem ToJ_mo : Rows.fnToJSONIntIsDecimalRow.mapsOut = Tryz.pinned.checked.prog.mapsAmong Tryz.f9.resultTypes.toList := by kernel_rfl
set_option maxRecDepth 100000 in
set_option maxHeartbeats 4000000 in
theorem ToJ_lo : Rows.fnToJSONIntIsDecimalRow.loops = (Tryz.f9.params.toList ++ (OpenSpec.ofChange Rows.fnToJSONIntIsDecimalSpec).bare.plain.varTypes Tryz.pinned.checked.prog).any (Tryz.pinned.checked.prog.loopsFrom ·) := by kernel_rfl
set_option maxRecDepth 100000 in
set_option maxHeartbeats 4000000 in
theorem ToJ_wk : Rows.fnToJSONIntIsDecimalRow.wideKeys = (Tryz.f9.params.toList ++ (OpenSpec.ofChange Rows.fnToJSONIntIsDecimalSpec).bare.plain.varTypes Tryz.pinned.checked.prog ++ Tryz.f9.resultTypes.toList).any (Tryz.pinned.checked.prog.wideKeysFrom ·) := by kernel_rfl
set_option maxRecDepth 100000 in
set_option maxHeartbeats 4000000 in
theorem ToJ_vr : ((OpenSpec.ofChange Rows.fnToJSONIntIsDecimalSpec).vars.all fun n => Tryz.pinned.checked.prog.varReadable n) = true := by kernel_rfl
set_option maxRecDepth 100000 in
set_option maxHeartbeats 4000000 in
theorem ToJ_si : (Tryz.f9.params.toList.all fun t => !Tryz.pinned.checked.prog.wantsStandIn t) = true := by kernel_rfl
set_option maxRecDepth 100000 in
set_option maxHeartbeats 4000000 in
theorem ToJ_goes : false = Rows.fnToJSONIntIsDecimalRow.goesBy Tryz.pinned.checked.prog := by kernel_rfl
set_option maxRecDepth 100000 in
set_option maxHeartbeats 4000000 in
theorem ToJ_m4 : (Tryz.f9.resultTypes.toList.all fun t => Tryz.pinned.checked.prog.readableRec t && decide (t < Tryz.pinned.checked.prog.types.size)) = true := by kernel_rfl
set_option maxRecDepth 100000 in
set_option maxHeartbeats 4000000 in
theorem ToJ_m6 : Rows.fnToJSONIntIsDecimalRow.ifacesOut = Tryz.f9.resultTypes.toList.any (Tryz.pinned.checked.prog.ifacesRec ·) := by kernel_rfl
set_option maxRecDepth 100000 in
set_option maxHeartbeats 4000000 in
theorem ToJ_m7 : Rows.fnToJSONIntIsDecimalRow.loopsOut = Tryz.f9.resultTypes.toList.any (Tryz.pinned.checked.prog.loopsFrom ·) := by kernel_rfl
set_option maxRecDepth 100000 in
set_option maxHeartbeats 4000000 in
theorem ToJ_m8 : Rows.fnToJSONIntIsDecimalRow.kinds = (if Rows.fnToJSONIntIsDecimalRow.domain.isEmpty then [] else Tryz.f9.params.toList.map fun t => match Tryz.pinned.checked.prog.underlying t with | some (.int k) => some k | _ => none) := by kernel_rfl
set_option maxRecDepth 100000 in
set_option maxHeartbeats 4000000 in
theorem ToJ_m9 : Rows.fnToJSONIntIsDecimalRow.pinned = Rows.fnToJSONIntIsDecimalRow.pinnedBy := by kernel_rfl
set_option maxRecDepth 100000 in
set_option maxHeartbeats 4000000 in
theorem ToJ_m10 : Rows.fnToJSONIntIsDecimalRow.plainKeys = Tryz.pinned.checked.prog.plainKeys := by kernel_rfl
set_option maxRecDepth 100000 in
set_option maxHeartbeats 4000000 in
theorem ToJ_m11 : Rows.fnToJSONIntIsDecimalRow.lifted = Tryz.pinned.checked.prog.liftsFinal := by kernel_rfl
set_option maxRecDepth 100000 in
set_option maxHeartbeats 4000000 in
theorem ToJ_m12 : Tryz.pinned.checked.prog.make = some Rows.fnToJSONIntIsDecimalRow.make := by kernel_rfl
set_option maxRecDepth 100000 in
set_option maxHeartbeats 4000000 in
theorem ToJ_v1 : Rows.fnToJSONIntIsDecimalRow.veiled = (Tryz.f9.params.toList ++ (OpenSpec.ofChange Rows.fnToJSONIntIsDecimalSpec).bare.plain.varTypes Tryz.pinned.checked.prog ++ Tryz.f9.resultTypes.toList).any (Tryz.pinned.checked.prog.veiledRec ·) := by kernel_rfl
set_option maxRecDepth 100000 in
set_option maxHeartbeats 4000000 in
theorem ToJ_v2 : Rows.fnToJSONIntIsDecimalRow.veiledFits Tryz.pinned.checked.prog Tryz.f9.params.toList (Tryz.f9.params.toList ++ (OpenSpec.ofChange Rows.fnToJSONIntIsDecimalSpec).bare.plain.varTypes Tryz.pinned.checked.prog ++ Tryz.f9.resultTypes.toList) = true := by kernel_rfl
set_option maxRecDepth 100000 in
set_option maxHeartbeats 4000000 in
theorem ToJ_ok (os : Os) : Input.okWideB Tryz.prog ((World.laidAll Tryz.prog os seatLaid0).forCall (fun _ _ => 0) ⟨#[], #[.int .i64 0], []⟩) 9 ⟨#[], #[.int .i64 0], []⟩ = true := by kernel_rfl
set_option maxRecDepth 100000 in
set_option maxHeartbeats 4000000 in
theorem ToJ_pre (os : Os) (H : Type) (enc : TypeId × Value → H) : (OpenSpec.ofChange Rows.fnToJSONIntIsDecimalSpec).bare.preB enc Tryz.prog Tryz.f9 [] false ((World.laidAll Tryz.prog os seatLaid0).forCall (fun _ _ => 0) ⟨#[], #[.int .i64 0], []⟩).memory #[.int .i64 0] 8 = true := by kernel_rfl
set_option maxRecDepth 100000 in
set_option maxHeartbeats 4000000 in
theorem ToJ_sz (os : Os) (H : Type) (enc : TypeId × Value → H) : (OpenSpec.ofChange Rows.fnToJSONIntIsDecimalSpec).bare.sizedB enc Tryz.prog Tryz.f9 false ((World.laidAll Tryz.prog os seatLaid0).forCall (fun _ _ => 0) ⟨#[], #[.int .i64 0], []⟩).memory #[.int .i64 0] 8 = true := by kernel_rfl
end Go.Proofs.YtfmjeacjfnlhiaaGreatFmt
