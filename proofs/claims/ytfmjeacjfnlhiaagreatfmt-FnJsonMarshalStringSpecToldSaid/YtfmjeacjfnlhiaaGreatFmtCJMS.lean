/- Closed facts of the row of FnJsonMarshalStringSpec, and of the start at which it is shown to speak of something. Conditions: none. -/
import Derived.Test.YtfmjeacjfnlhiaaGreatFmtWit
import Derived.SevenTiedAt
import Derived.Test.YtfmjeacjfnlhiaaGreatFmtCards
namespace Go.Proofs.YtfmjeacjfnlhiaaGreatFmt
open Go
set_option maxRecDepth 100000 in
set_option maxHeartbeats 4000000 in
theorem JMS_wf : Rows.fnJsonMarshalStringSpecRow.wfByText (OpenSpec.ofChange Rows.fnJsonMarshalStringSpecSpec) = true := by kernel_rfl
set_option maxRecDepth 100000 in
set_option maxHeartbeats 4000000 in
theorem JMS_tie : namedTie Tryz.pinned.checked.prog Rows.fnJsonMarshalStringSpecRow.namedList (OpenSpec.ofChange Rows.fnJsonMarshalStringSpecSpec).vars = true := by kernel_rfl
set_option maxRecDepth 100000 in
set_option maxHeartbeats 4000000 in
theorem JMS_named : Tryz.pinned.checked.prog.funcNamed Rows.fnJsonMarshalStringSpecRow.func = some 11 := by kernel_rfl
set_option maxRecDepth 100000 in
set_option maxHeartbeats 4000000 in
theorem JMS_read : (Tryz.f11.params.toList.all fun t => Tryz.pinned.checked.prog.readableRec t) = true := by kernel_rfl
set_option maxRecDepth 100000 in
set_option maxHeartbeats 4000000 in
theorem JMS_inp : Rows.fnJsonMarshalStringSpecRow.inPlace = Tryz.pinned.checked.prog.inPlace 11 := by kernel_rfl
set_option maxRecDepth 100000 in
set_option maxHeartbeats 4000000 in
theorem JMS_unf : Rows.fnJsonMarshalStringSpecRow.unfollowed = Tryz.pinned.checked.prog.unfollowed 11 := by kernel_rfl
set_option maxRecDepth 100000 in
set_option maxHeartbeats 4000000 in
theorem JMS_rec : Rows.fnJsonMarshalStringSpecRow.recurses = Tryz.pinned.checked.prog.recurses 11 := by kernel_rfl
set_option maxRecDepth 100000 in
set_option maxHeartbeats 4000000 in
theorem JMS_vars : Rows.fnJsonMarshalStringSpecRow.named = Tryz.pinned.checked.prog.varsNamed 11 := by kernel_rfl
set_option maxRecDepth 100000 in
set_option maxHeartbeats 4000000 in
theorem JMS_maps : Rows.fnJsonMarshalStringSpecRow.maps = (Tryz.f11.params.toList ++ (OpenSpec.ofChange Rows.fnJsonMarshalStringSpecSpec).bare.plain.varTypes Tryz.pinned.checked.prog).any (Tryz.pinned.checked.prog.mapsRec ·) := by kernel_rfl
set_option maxRecDepth 100000 in
set_option maxHeartbeats 4000000 in
theorem JMS_ifs : Rows.fnJsonMarshalStringSpecRow.ifaces = (Tryz.f11.params.toList ++ (OpenSpec.ofChange Rows.fnJsonMarshalStringSpecSpec).bare.plain.varTypes Tryz.pinned.checked.prog).any (Tryz.pinned.checked.prog.ifacesRec ·) := by kernel_rfl
set_option maxRecDepth 100000 in
set_option maxHeartbeats 4000000 in
theorem JMS_mo : Rows.fnJsonMarshalStringSpecRow.mapsOut = Tryz.pinned.checked.prog.mapsAmong Tryz.f11.resultTypes.toList := by kernel_rfl
set_option maxRecDepth 100000 in
set_option maxHeartbeats 4000000 in
theorem JMS_lo : Rows.fnJsonMarshalStringSpecRow.loops = (Tryz.f11.params.toList ++ (OpenSpec.ofChange Rows.fnJsonMarshalStringSpecSpec).bare.plain.varTypes Tryz.pinned.checked.prog).any (Tryz.pinned.checked.prog.loopsFrom ·) := by kernel_rfl
set_option maxRecDepth 100000 in
set_option maxHeartbeats 4000000 in
theorem JMS_wk : Rows.fnJsonMarshalStringSpecRow.wideKeys = (Tryz.f11.params.toList ++ (OpenSpec.ofChange Rows.fnJsonMarshalStringSpecSpec).bare.plain.varTypes Tryz.pinned.checked.prog ++ Tryz.f11.resultTypes.toList).any (Tryz.pinned.checked.prog.wideKeysFrom ·) := by kernel_rfl
set_option maxRecDepth 100000 in
set_option maxHeartbeats 4000000 in
theorem JMS_vr : ((OpenSpec.ofChange Rows.fnJsonMarshalStringSpecSpec).vars.all fun n => Tryz.pinned.checked.prog.varReadable n) = true := by kernel_rfl
set_option maxRecDepth 100000 in
set_option maxHeartbeats 4000000 in
theorem JMS_si : (Tryz.f11.params.toList.all fun t => !Tryz.pinned.checked.prog.wantsStandIn t) = true := by kernel_rfl
set_option maxRecDepth 100000 in
set_option maxHeartbeats 4000000 in
theorem JMS_goes : false = Rows.fnJsonMarshalStringSpecRow.goesBy Tryz.pinned.checked.prog := by kernel_rfl
set_option maxRecDepth 100000 in
set_option maxHeartbeats 4000000 in
theorem JMS_m4 : (Tryz.f11.resultTypes.toList.all fun t => Tryz.pinned.checked.prog.readableRec t && decide (t < Tryz.pinned.checked.prog.types.size)) = true := by kernel_rfl
set_option maxRecDepth 100000 in
set_option maxHeartbeats 4000000 in
theorem JMS_m6 : Rows.fnJsonMarshalStringSpecRow.ifacesOut = Tryz.f11.resultTypes.toList.any (Tryz.pinned.checked.prog.ifacesRec ·) := by kernel_rfl
set_option maxRecDepth 100000 in
set_option maxHeartbeats 4000000 in
theorem JMS_m7 : Rows.fnJsonMarshalStringSpecRow.loopsOut = Tryz.f11.resultTypes.toList.any (Tryz.pinned.checked.prog.loopsFrom ·) := by kernel_rfl
set_option maxRecDepth 100000 in
set_option maxHeartbeats 4000000 in
theorem JMS_m8 : Rows.fnJsonMarshalStringSpecRow.kinds = (if Rows.fnJsonMarshalStringSpecRow.domain.isEmpty then [] else Tryz.f11.params.toList.map fun t => match Tryz.pinned.checked.prog.underlying t with | some (.int k) => some k | _ => none) := by kernel_rfl
set_option maxRecDepth 100000 in
set_option maxHeartbeats 4000000 in
theorem JMS_m9 : Rows.fnJsonMarshalStringSpecRow.pinned = Rows.fnJsonMarshalStringSpecRow.pinnedBy := by kernel_rfl
set_option maxRecDepth 100000 in
set_option maxHeartbeats 4000000 in
theorem JMS_m10 : Rows.fnJsonMarshalStringSpecRow.plainKeys = Tryz.pinned.checked.prog.plainKeys := by kernel_rfl
set_option maxRecDepth 100000 in
set_option maxHeartbeats 4000000 in
theorem JMS_m11 : Rows.fnJsonMarshalStringSpecRow.lifted = Tryz.pinned.checked.prog.liftsFinal := by kernel_rfl
set_option maxRecDepth 100000 in
set_option maxHeartbeats 4000000 in
theorem JMS_m12 : Tryz.pinned.checked.prog.make = some Rows.fnJsonMarshalStringSpecRow.make := by kernel_rfl
set_option maxRecDepth 100000 in
set_option maxHeartbeats 4000000 in
theorem JMS_v1 : Rows.fnJsonMarshalStringSpecRow.veiled = (Tryz.f11.params.toList ++ (OpenSpec.ofChange Rows.fnJsonMarshalStringSpecSpec).bare.plain.varTypes Tryz.pinned.checked.prog ++ Tryz.f11.resultTypes.toList).any (Tryz.pinned.checked.prog.veiledRec ·) := by kernel_rfl
set_option maxRecDepth 100000 in
set_option maxHeartbeats 4000000 in
theorem JMS_v2 : Rows.fnJsonMarshalStringSpecRow.veiledFits Tryz.pinned.checked.prog Tryz.f11.params.toList (Tryz.f11.params.toList ++ (OpenSpec.ofChange Rows.fnJsonMarshalStringSpecSpec).bare.plain.varTypes Tryz.pinned.checked.prog ++ Tryz.f11.resultTypes.toList) = true := by kernel_rfl
set_option maxRecDepth 100000 in
set_option maxHeartbeats 4000000 in
theorem JMS_ok (os : Os) : Input.okWideB Tryz.prog ((World.laidAll Tryz.prog os seatLaid0).forCall (fun _ _ => 0) ⟨#[], #[.string ByteArray.empty], []⟩) 11 ⟨#[], #[.string ByteArray.empty], []⟩ = true := by kernel_rfl
set_option maxRecDepth 100000 in
set_option maxHeartbeats 4000000 in
theorem JMS_pre (os : Os) (H : Type) (enc : TypeId × Value → H) : (OpenSpec.ofChange Rows.fnJsonMarshalStringSpecSpec).bare.preB enc Tryz.prog Tryz.f11 [] false ((World.laidAll Tryz.prog os seatLaid0).forCall (fun _ _ => 0) ⟨#[], #[.string ByteArray.empty], []⟩).memory #[.string ByteArray.empty] 8 = true := by kernel_rfl
set_option maxRecDepth 100000 in
set_option maxHeartbeats 4000000 in
theorem JMS_sz (os : Os) (H : Type) (enc : TypeId × Value → H) : (OpenSpec.ofChange Rows.fnJsonMarshalStringSpecSpec).bare.sizedB enc Tryz.prog Tryz.f11 false ((World.laidAll Tryz.prog os seatLaid0).forCall (fun _ _ => 0) ⟨#[], #[.string ByteArray.empty], []⟩).memory #[.string ByteArray.empty] 8 = true := by kernel_rfl
end Go.Proofs.YtfmjeacjfnlhiaaGreatFmt
