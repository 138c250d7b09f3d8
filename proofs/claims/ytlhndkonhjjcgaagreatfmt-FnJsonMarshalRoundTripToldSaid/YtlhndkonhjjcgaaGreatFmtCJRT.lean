/- Closed facts of the row of FnJsonMarshalRoundTrip, and of the start at which it is shown to speak of something. Conditions: none. -/
import Derived.Test.YtlhndkonhjjcgaaGreatFmtWit
import Derived.SevenTiedAt
import Derived.Test.YtlhndkonhjjcgaaGreatFmtCards
namespace Go.Proofs.YtlhndkonhjjcgaaGreatFmt
open Go
set_option maxRecDepth 100000 in
set_option maxHeartbeats 4000000 in
theorem JRT_wf : Rows.fnJsonMarshalRoundTripRow.wfByText (OpenSpec.ofChange Rows.fnJsonMarshalRoundTripSpec) = true := by kernel_rfl
set_option maxRecDepth 100000 in
set_option maxHeartbeats 4000000 in
theorem JRT_tie : namedTie Tryz.pinned.checked.prog Rows.fnJsonMarshalRoundTripRow.namedList (OpenSpec.ofChange Rows.fnJsonMarshalRoundTripSpec).vars = true := by kernel_rfl
set_option maxRecDepth 100000 in
set_option maxHeartbeats 4000000 in
theorem JRT_named : Tryz.pinned.checked.prog.funcNamed Rows.fnJsonMarshalRoundTripRow.func = some 3 := by kernel_rfl
set_option maxRecDepth 100000 in
set_option maxHeartbeats 4000000 in
theorem JRT_read : (Tryz.f3.params.toList.all fun t => Tryz.pinned.checked.prog.readableRec t) = true := by kernel_rfl
set_option maxRecDepth 100000 in
set_option maxHeartbeats 4000000 in
theorem JRT_inp : Rows.fnJsonMarshalRoundTripRow.inPlace = Tryz.pinned.checked.prog.inPlace 3 := by kernel_rfl
set_option maxRecDepth 100000 in
set_option maxHeartbeats 4000000 in
theorem JRT_unf : Rows.fnJsonMarshalRoundTripRow.unfollowed = Tryz.pinned.checked.prog.unfollowed 3 := by kernel_rfl
set_option maxRecDepth 100000 in
set_option maxHeartbeats 4000000 in
theorem JRT_rec : Rows.fnJsonMarshalRoundTripRow.recurses = Tryz.pinned.checked.prog.recurses 3 := by kernel_rfl
set_option maxRecDepth 100000 in
set_option maxHeartbeats 4000000 in
theorem JRT_vars : Rows.fnJsonMarshalRoundTripRow.named = Tryz.pinned.checked.prog.varsNamed 3 := by kernel_rfl
set_option maxRecDepth 100000 in
set_option maxHeartbeats 4000000 in
theorem JRT_maps : Rows.fnJsonMarshalRoundTripRow.maps = (Tryz.f3.params.toList ++ (OpenSpec.ofChange Rows.fnJsonMarshalRoundTripSpec).bare.plain.varTypes Tryz.pinned.checked.prog).any (Tryz.pinned.checked.prog.mapsRec ·) := by kernel_rfl
set_option maxRecDepth 100000 in
set_option maxHeartbeats 4000000 in
theorem JRT_ifs : Rows.fnJsonMarshalRoundTripRow.ifaces = (Tryz.f3.params.toList ++ (OpenSpec.ofChange Rows.fnJsonMarshalRoundTripSpec).bare.plain.varTypes Tryz.pinned.checked.prog).any (Tryz.pinned.checked.prog.ifacesRec ·) := by kernel_rfl
set_option maxRecDepth 100000 in
set_option maxHeartbeats 4000000 in
theorem JRT_mo : Rows.fnJsonMarshalRoundTripRow.mapsOut = Tryz.pinned.checked.prog.mapsAmong Tryz.f3.resultTypes.toList := by kernel_rfl
set_option maxRecDepth 100000 in
set_option maxHeartbeats 4000000 in
theorem JRT_lo : Rows.fnJsonMarshalRoundTripRow.loops = (Tryz.f3.params.toList ++ (OpenSpec.ofChange Rows.fnJsonMarshalRoundTripSpec).bare.plain.varTypes Tryz.pinned.checked.prog).any (Tryz.pinned.checked.prog.loopsFrom ·) := by kernel_rfl
set_option maxRecDepth 100000 in
set_option maxHeartbeats 4000000 in
theorem JRT_wk : Rows.fnJsonMarshalRoundTripRow.wideKeys = (Tryz.f3.params.toList ++ (OpenSpec.ofChange Rows.fnJsonMarshalRoundTripSpec).bare.plain.varTypes Tryz.pinned.checked.prog ++ Tryz.f3.resultTypes.toList).any (Tryz.pinned.checked.prog.wideKeysFrom ·) := by kernel_rfl
set_option maxRecDepth 100000 in
set_option maxHeartbeats 4000000 in
theorem JRT_vr : ((OpenSpec.ofChange Rows.fnJsonMarshalRoundTripSpec).vars.all fun n => Tryz.pinned.checked.prog.varReadable n) = true := by kernel_rfl
set_option maxRecDepth 100000 in
set_option maxHeartbeats 4000000 in
theorem JRT_si : (Tryz.f3.params.toList.all fun t => !Tryz.pinned.checked.prog.wantsStandIn t) = true := by kernel_rfl
set_option maxRecDepth 100000 in
set_option maxHeartbeats 4000000 in
theorem JRT_goes : false = Rows.fnJsonMarshalRoundTripRow.goesBy Tryz.pinned.checked.prog := by kernel_rfl
set_option maxRecDepth 100000 in
set_option maxHeartbeats 4000000 in
theorem JRT_m4 : (Tryz.f3.resultTypes.toList.all fun t => Tryz.pinned.checked.prog.readableRec t && decide (t < Tryz.pinned.checked.prog.types.size)) = true := by kernel_rfl
set_option maxRecDepth 100000 in
set_option maxHeartbeats 4000000 in
theorem JRT_m6 : Rows.fnJsonMarshalRoundTripRow.ifacesOut = Tryz.f3.resultTypes.toList.any (Tryz.pinned.checked.prog.ifacesRec ·) := by kernel_rfl
set_option maxRecDepth 100000 in
set_option maxHeartbeats 4000000 in
theorem JRT_m7 : Rows.fnJsonMarshalRoundTripRow.loopsOut = Tryz.f3.resultTypes.toList.any (Tryz.pinned.checked.prog.loopsFrom ·) := by kernel_rfl
set_option maxRecDepth 100000 in
set_option maxHeartbeats 4000000 in
theorem JRT_m8 : Rows.fnJsonMarshalRoundTripRow.kinds = (if Rows.fnJsonMarshalRoundTripRow.domain.isEmpty then [] else Tryz.f3.params.toList.map fun t => match Tryz.pinned.checked.prog.underlying t with | some (.int k) => some k | _ => none) := by kernel_rfl
set_option maxRecDepth 100000 in
set_option maxHeartbeats 4000000 in
theorem JRT_m9 : Rows.fnJsonMarshalRoundTripRow.pinned = Rows.fnJsonMarshalRoundTripRow.pinnedBy := by kernel_rfl
set_option maxRecDepth 100000 in
set_option maxHeartbeats 4000000 in
theorem JRT_m10 : Rows.fnJsonMarshalRoundTripRow.plainKeys = Tryz.pinned.checked.prog.plainKeys := by kernel_rfl
set_option maxRecDepth 100000 in
set_option maxHeartbeats 4000000 in
theorem JRT_m11 : Rows.fnJsonMarshalRoundTripRow.lifted = Tryz.pinned.checked.prog.liftsFinal := by kernel_rfl
set_option maxRecDepth 100000 in
set_option maxHeartbeats 4000000 in
theorem JRT_m12 : Tryz.pinned.checked.prog.make = some Rows.fnJsonMarshalRoundTripRow.make := by kernel_rfl
set_option maxRecDepth 100000 in
set_option maxHeartbeats 4000000 in
theorem JRT_v1 : Rows.fnJsonMarshalRoundTripRow.veiled = (Tryz.f3.params.toList ++ (OpenSpec.ofChange Rows.fnJsonMarshalRoundTripSpec).bare.plain.varTypes Tryz.pinned.checked.prog ++ Tryz.f3.resultTypes.toList).any (Tryz.pinned.checked.prog.veiledRec ·) := by kernel_rfl
set_option maxRecDepth 100000 in
set_option maxHeartbeats 4000000 in
theorem JRT_v2 : Rows.fnJsonMarshalRoundTripRow.veiledFits Tryz.pinned.checked.prog Tryz.f3.params.toList (Tryz.f3.params.toList ++ (OpenSpec.ofChange Rows.fnJsonMarshalRoundTripSpec).bare.plain.varTypes Tryz.pinned.checked.prog ++ Tryz.f3.resultTypes.toList) = true := by kernel_rfl
set_option maxRecDepth 100000 in
set_option maxHeartbeats 4000000 in
theorem JRT_ok (os : Os) : Input.okWideB Tryz.prog ((World.laidAll Tryz.prog os seatLaid0).forCall (fun _ _ => 0) ⟨#[], #[.string ByteArray.empty], []⟩) 3 ⟨#[], #[.string ByteArray.empty], []⟩ = true := by kernel_rfl
set_option maxRecDepth 100000 in
set_option maxHeartbeats 4000000 in
theorem JRT_pre (os : Os) (H : Type) (enc : TypeId × Value → H) : (OpenSpec.ofChange Rows.fnJsonMarshalRoundTripSpec).bare.preB enc Tryz.prog Tryz.f3 [] false ((World.laidAll Tryz.prog os seatLaid0).forCall (fun _ _ => 0) ⟨#[], #[.string ByteArray.empty], []⟩).memory #[.string ByteArray.empty] 8 = true := by kernel_rfl
set_option maxRecDepth 100000 in
set_option maxHeartbeats 4000000 in
theorem JRT_sz (os : Os) (H : Type) (enc : TypeId × Value → H) : (OpenSpec.ofChange Rows.fnJsonMarshalRoundTripSpec).bare.sizedB enc Tryz.prog Tryz.f3 false ((World.laidAll Tryz.prog os seatLaid0).forCall (fun _ _ => 0) ⟨#[], #[.string ByteArray.empty], []⟩).memory #[.string ByteArray.empty] 8 = true := by kernel_rfl
end Go.Proofs.YtlhndkonhjjcgaaGreatFmt
