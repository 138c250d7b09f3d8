/- Closed facts of the row of FnEncodeIntArraySpec, and of the start at which it is shown to speak of something. Conditions: none. -/
import Derived.Test.YtfmjeacjfnlhiaaGreatFmtWit
import Derived.SevenTiedAt
import Derived.Test.YtfmjeacjfnlhiaaGreatFmtCards
namespace Go.Proofs.YtfmjeacjfnlhiaaGreatFmt
open Go
set_option maxRecDepth 100000 in
set_option maxHeartbeats 4000000 in
theorem EIA_wf : Rows.fnEncodeIntArraySpecRow.wfByText (OpenSpec.ofChange Rows.fnEncodeIntArraySpecSpec) = true := by kernel_rfl
set_option maxRecDepth 100000 in
set_option maxHeartbeats 4000000 in
theorem EIA_tie : namedTie Tryz.pinned.checked.prog Rows.fnEncodeIntArraySpecRow.namedList (OpenSpec.ofChange Rows.fnEncodeIntArraySpecSpec).vars = true := by kernel_rfl
set_option maxRecDepth 100000 in
set_option maxHeartbeats 4000000 in
theorem EIA_named : Tryz.pinned.checked.prog.funcNamed Rows.fnEncodeIntArraySpecRow.func = some 10 := by kernel_rfl
set_option maxRecDepth 100000 in
set_option maxHeartbeats 4000000 in
theorem EIA_read : (Tryz.f10.params.toList.all fun t => Tryz.pinned.checked.prog.readableRec t) = true := by kernel_rfl
set_option maxRecDepth 100000 in
set_option maxHeartbeats 4000000 in
theorem EIA_inp : Rows.fnEncodeIntArraySpecRow.inPlace = Tryz.pinned.checked.prog.inPlace 10 := by kernel_rfl
set_option maxRecDepth 100000 in
set_option maxHeartbeats 4000000 in
theorem EIA_unf : Rows.fnEncodeIntArraySpecRow.unfollowed = Tryz.pinned.checked.prog.unfollowed 10 := by kernel_rfl
set_option maxRecDepth 100000 in
set_option maxHeartbeats 4000000 in
theorem EIA_rec : Rows.fnEncodeIntArraySpecRow.recurses = Tryz.pinned.checked.prog.recurses 10 := by kernel_rfl
set_option maxRecDepth 100000 in
set_option maxHeartbeats 4000000 in
theorem EIA_vars : Rows.fnEncodeIntArraySpecRow.named = Tryz.pinned.checked.prog.varsNamed 10 := by kernel_rfl
set_option maxRecDepth 100000 in
set_option maxHeartbeats 4000000 in
theorem EIA_maps : Rows.fnEncodeIntArraySpecRow.maps = (Tryz.f10.params.toList ++ (OpenSpec.ofChange Rows.fnEncodeIntArraySpecSpec).bare.plain.varTypes Tryz.pinned.checked.prog).any (Tryz.pinned.checked.prog.mapsRec ·) := by kernel_rfl
set_option maxRecDepth 100000 in
set_option maxHeartbeats 4000000 in
theorem EIA_ifs : Rows.fnEncodeIntArraySpecRow.ifaces = (Tryz.f10.params.toList ++ (OpenSpec.ofChange Rows.fnEncodeIntArraySpecSpec).bare.plain.varTypes Tryz.pinned.checked.prog).any (Tryz.pinned.checked.prog.ifacesRec ·) := by kernel_rfl
set_option maxRecDepth 100000 in
set_option maxHeartbeats 4000000 in
theorem EIA_mo : Rows.fnEncodeIntArraySpecRow.mapsOut = Tryz.pinned.checked.prog.mapsAmong Tryz.f10.resultTypes.toList := by kernel_rfl
set_option maxRecDepth 100000 in
set_option maxHeartbeats 4000000 in
theorem EIA_lo : Rows.fnEncodeIntArraySpecRow.loops = (Tryz.f10.params.toList ++ (OpenSpec.ofChange Rows.fnEncodeIntArraySpecSpec).bare.plain.varTypes Tryz.pinned.checked.prog).any (Tryz.pinned.checked.prog.loopsFrom ·) := by kernel_rfl
set_option maxRecDepth 100000 in
set_option maxHeartbeats 4000000 in
theorem EIA_wk : Rows.fnEncodeIntArraySpecRow.wideKeys = (Tryz.f10.params.toList ++ (OpenSpec.ofChange Rows.fnEncodeIntArraySpecSpec).bare.plain.varTypes Tryz.pinned.checked.prog ++ Tryz.f10.resultTypes.toList).any (Tryz.pinned.checked.prog.wideKeysFrom ·) := by kernel_rfl
set_option maxRecDepth 100000 in
set_option maxHeartbeats 4000000 in
theorem EIA_vr : ((OpenSpec.ofChange Rows.fnEncodeIntArraySpecSpec).vars.all fun n => Tryz.pinned.checked.prog.varReadable n) = true := by kernel_rfl
set_option maxRecDepth 100000 in
set_option maxHeartbeats 4000000 in
theorem EIA_si : (Tryz.f10.params.toList.all fun t => !Tryz.pinned.checked.prog.wantsStandIn t) = true := by kernel_rfl
set_option maxRecDepth 100000 in
set_option maxHeartbeats 4000000 in
theorem EIA_goes : false = Rows.fnEncodeIntArraySpecRow.goesBy Tryz.pinned.checked.prog := by kernel_rfl
set_option maxRecDepth 100000 in
set_option maxHeartbeats 4000000 in
theorem EIA_m4 : (Tryz.f10.resultTypes.toList.all fun t => Tryz.pinned.checked.prog.readableRec t && decide (t < Tryz.pinned.checked.prog.types.size)) = true := by kernel_rfl
set_option maxRecDepth 100000 in
set_option maxHeartbeats 4000000 in
theorem EIA_m6 : Rows.fnEncodeIntArraySpecRow.ifacesOut = Tryz.f10.resultTypes.toList.any (Tryz.pinned.checked.prog.ifacesRec ·) := by kernel_rfl
set_option maxRecDepth 100000 in
set_option maxHeartbeats 4000000 in
theorem EIA_m7 : Rows.fnEncodeIntArraySpecRow.loopsOut = Tryz.f10.resultTypes.toList.any (Tryz.pinned.checked.prog.loopsFrom ·) := by kernel_rfl
set_option maxRecDepth 100000 in
set_option maxHeartbeats 4000000 in
theorem EIA_m8 : Rows.fnEncodeIntArraySpecRow.kinds = (if Rows.fnEncodeIntArraySpecRow.domain.isEmpty then [] else Tryz.f10.params.toList.map fun t => match Tryz.pinned.checked.prog.underlying t with | some (.int k) => some k | _ => none) := by kernel_rfl
set_option maxRecDepth 100000 in
set_option maxHeartbeats 4000000 in
theorem EIA_m9 : Rows.fnEncodeIntArraySpecRow.pinned = Rows.fnEncodeIntArraySpecRow.pinnedBy := by kernel_rfl
set_option maxRecDepth 100000 in
set_option maxHeartbeats 4000000 in
theorem EIA_m10 : Rows.fnEncodeIntArraySpecRow.plainKeys = Tryz.pinned.checked.prog.plainKeys := by kernel_rfl
set_option maxRecDepth 100000 in
set_option maxHeartbeats 4000000 in
theorem EIA_m11 : Rows.fnEncodeIntArraySpecRow.lifted = Tryz.pinned.checked.prog.liftsFinal := by kernel_rfl
set_option maxRecDepth 100000 in
set_option maxHeartbeats 4000000 in
theorem EIA_m12 : Tryz.pinned.checked.prog.make = some Rows.fnEncodeIntArraySpecRow.make := by kernel_rfl
set_option maxRecDepth 100000 in
set_option maxHeartbeats 4000000 in
theorem EIA_v1 : Rows.fnEncodeIntArraySpecRow.veiled = (Tryz.f10.params.toList ++ (OpenSpec.ofChange Rows.fnEncodeIntArraySpecSpec).bare.plain.varTypes Tryz.pinned.checked.prog ++ Tryz.f10.resultTypes.toList).any (Tryz.pinned.checked.prog.veiledRec ·) := by kernel_rfl
set_option maxRecDepth 100000 in
set_option maxHeartbeats 4000000 in
theorem EIA_v2 : Rows.fnEncodeIntArraySpecRow.veiledFits Tryz.pinned.checked.prog Tryz.f10.params.toList (Tryz.f10.params.toList ++ (OpenSpec.ofChange Rows.fnEncodeIntArraySpecSpec).bare.plain.varTypes Tryz.pinned.checked.prog ++ Tryz.f10.resultTypes.toList) = true := by kernel_rfl
set_option maxRecDepth 100000 in
set_option maxHeartbeats 4000000 in
theorem EIA_ok (os : Os) : Input.okWideB Tryz.prog ((World.laidAll Tryz.prog os seatLaid0).forCall (fun _ _ => 0) ⟨#[], #[.slice none 0 0], []⟩) 10 ⟨#[], #[.slice none 0 0], []⟩ = true := by kernel_rfl
set_option maxRecDepth 100000 in
set_option maxHeartbeats 4000000 in
theorem EIA_pre (os : Os) (H : Type) (enc : TypeId × Value → H) : (OpenSpec.ofChange Rows.fnEncodeIntArraySpecSpec).bare.preB enc Tryz.prog Tryz.f10 [] false ((World.laidAll Tryz.prog os seatLaid0).forCall (fun _ _ => 0) ⟨#[], #[.slice none 0 0], []⟩).memory #[.slice none 0 0] 8 = true := by kernel_rfl
set_option maxRecDepth 100000 in
set_option maxHeartbeats 4000000 in
theorem EIA_sz (os : Os) (H : Type) (enc : TypeId × Value → H) : (OpenSpec.ofChange Rows.fnEncodeIntArraySpecSpec).bare.sizedB enc Tryz.prog Tryz.f10 false ((World.laidAll Tryz.prog os seatLaid0).forCall (fun _ _ => 0) ⟨#[], #[.slice none 0 0], []⟩).memory #[.slice none 0 0] 8 = true := by kernel_rfl
end Go.Proofs.YtfmjeacjfnlhiaaGreatFmt
