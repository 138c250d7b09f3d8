/- Closed facts of the row of FnRepeatStringTooLargeBounded, and of the start at which it is shown to speak of something. Conditions: none. -/
import Derived.Test.YtdkccihoecpcaaaGreatFmtWit
import Derived.SevenTiedAt
import Derived.Test.YtdkccihoecpcaaaGreatFmtCards
namespace Go.Proofs.YtdkccihoecpcaaaGreatFmt
open Go
set_option maxRecDepth 100000 in
set_option maxHeartbeats 4000000 in
theorem RepB_wf : Rows.fnRepeatStringTooLargeBoundedRow.wfByText (OpenSpec.ofChange Rows.fnRepeatStringTooLargeBoundedSpec) = true := by kernel_rfl
set_option maxRecDepth 100000 in
set_option maxHeartbeats 4000000 in
theorem RepB_tie : namedTie Tryz.pinned.checked.prog Rows.fnRepeatStringTooLargeBoundedRow.namedList (OpenSpec.ofChange Rows.fnRepeatStringTooLargeBoundedSpec).vars = true := by kernel_rfl
set_option maxRecDepth 100000 in
set_option maxHeartbeats 4000000 in
theorem RepB_named : Tryz.pinned.checked.prog.funcNamed Rows.fnRepeatStringTooLargeBoundedRow.func = some 3 := by kernel_rfl
set_option maxRecDepth 100000 in
set_option maxHeartbeats 4000000 in
theorem RepB_read : (Tryz.f3.params.toList.all fun t => Tryz.pinned.checked.prog.readableRec t) = true := by kernel_rfl
set_option maxRecDepth 100000 in
set_option maxHeartbeats 4000000 in
theorem RepB_inp : Rows.fnRepeatStringTooLargeBoundedRow.inPlace = Tryz.pinned.checked.prog.inPlace 3 := by kernel_rfl
set_option maxRecDepth 100000 in
set_option maxHeartbeats 4000000 in
theorem RepB_unf : Rows.fnRepeatStringTooLargeBoundedRow.unfollowed = Tryz.pinned.checked.prog.unfollowed 3 := by kernel_rfl
set_option maxRecDepth 100000 in
set_option maxHeartbeats 4000000 in
theorem RepB_rec : Rows.fnRepeatStringTooLargeBoundedRow.recurses = Tryz.pinned.checked.prog.recurses 3 := by kernel_rfl
set_option maxRecDepth 100000 in
set_option maxHeartbeats 4000000 in
theorem RepB_vars : Rows.fnRepeatStringTooLargeBoundedRow.named = Tryz.pinned.checked.prog.varsNamed 3 := by kernel_rfl
set_option maxRecDepth 100000 in
set_option maxHeartbeats 4000000 in
theorem RepB_maps : Rows.fnRepeatStringTooLargeBoundedRow.maps = (Tryz.f3.params.toList ++ (OpenSpec.ofChange Rows.fnRepeatStringTooLargeBoundedSpec).bare.plain.varTypes Tryz.pinned.checked.prog).any (Tryz.pinned.checked.prog.mapsRec ·) := by kernel_rfl
set_option maxRecDepth 100000 in
set_option maxHeartbeats 4000000 in
theorem RepB_ifs : Rows.fnRepeatStringTooLargeBoundedRow.ifaces = (Tryz.f3.params.toList ++ (OpenSpec.ofChange Rows.fnRepeatStringTooLargeBoundedSpec).bare.plain.varTypes Tryz.pinned.checked.prog).any (Tryz.pinned.checked.prog.ifacesRec ·) := by kernel_rfl
set_option maxRecDepth 100000 in
set_option maxHeartbeats 4000000 in
theorem RepB_mo : Rows.fnRepeatStringTooLargeBoundedRow.mapsOut = Tryz.pinned.checked.prog.mapsAmong Tryz.f3.resultTypes.toList := by kernel_rfl
set_option maxRecDepth 100000 in
set_option maxHeartbeats 4000000 in
theorem RepB_lo : Rows.fnRepeatStringTooLargeBoundedRow.loops = (Tryz.f3.params.toList ++ (OpenSpec.ofChange Rows.fnRepeatStringTooLargeBoundedSpec).bare.plain.varTypes Tryz.pinned.checked.prog).any (Tryz.pinned.checked.prog.loopsFrom ·) := by kernel_rfl
set_option maxRecDepth 100000 in
set_option maxHeartbeats 4000000 in
theorem RepB_wk : Rows.fnRepeatStringTooLargeBoundedRow.wideKeys = (Tryz.f3.params.toList ++ (OpenSpec.ofChange Rows.fnRepeatStringTooLargeBoundedSpec).bare.plain.varTypes Tryz.pinned.checked.prog ++ Tryz.f3.resultTypes.toList).any (Tryz.pinned.checked.prog.wideKeysFrom ·) := by kernel_rfl
set_option maxRecDepth 100000 in
set_option maxHeartbeats 4000000 in
theorem RepB_vr : ((OpenSpec.ofChange Rows.fnRepeatStringTooLargeBoundedSpec).vars.all fun n => Tryz.pinned.checked.prog.varReadable n) = true := by kernel_rfl
set_option maxRecDepth 100000 in
set_option maxHeartbeats 4000000 in
theorem RepB_si : (Tryz.f3.params.toList.all fun t => !Tryz.pinned.checked.prog.wantsStandIn t) = true := by kernel_rfl
set_option maxRecDepth 100000 in
set_option maxHeartbeats 4000000 in
theorem RepB_goes : false = Rows.fnRepeatStringTooLargeBoundedRow.goesBy Tryz.pinned.checked.prog := by kernel_rfl
set_option maxRecDepth 100000 in
set_option maxHeartbeats 4000000 in
theorem RepB_m4 : (Tryz.f3.resultTypes.toList.all fun t => Tryz.pinned.checked.prog.readableRec t && decide (t < Tryz.pinned.checked.prog.types.size)) = true := by kernel_rfl
set_option maxRecDepth 100000 in
set_option maxHeartbeats 4000000 in
theorem RepB_m6 : Rows.fnRepeatStringTooLargeBoundedRow.ifacesOut = Tryz.f3.resultTypes.toList.any (Tryz.pinned.checked.prog.ifacesRec ·) := by kernel_rfl
set_option maxRecDepth 100000 in
set_option maxHeartbeats 4000000 in
theorem RepB_m7 : Rows.fnRepeatStringTooLargeBoundedRow.loopsOut = Tryz.f3.resultTypes.toList.any (Tryz.pinned.checked.prog.loopsFrom ·) := by kernel_rfl
set_option maxRecDepth 100000 in
set_option maxHeartbeats 4000000 in
theorem RepB_m8 : Rows.fnRepeatStringTooLargeBoundedRow.kinds = (if Rows.fnRepeatStringTooLargeBoundedRow.domain.isEmpty then [] else Tryz.f3.params.toList.map fun t => match Tryz.pinned.checked.prog.underlying t with | some (.int k) => some k | _ => none) := by kernel_rfl
set_option maxRecDepth 100000 in
set_option maxHeartbeats 4000000 in
theorem RepB_m9 : Rows.fnRepeatStringTooLargeBoundedRow.pinned = Rows.fnRepeatStringTooLargeBoundedRow.pinnedBy := by kernel_rfl
set_option maxRecDepth 100000 in
set_option maxHeartbeats 4000000 in
theorem RepB_m10 : Rows.fnRepeatStringTooLargeBoundedRow.plainKeys = Tryz.pinned.checked.prog.plainKeys := by kernel_rfl
set_option maxRecDepth 100000 in
set_option maxHeartbeats 4000000 in
theorem RepB_m11 : Rows.fnRepeatStringTooLargeBoundedRow.lifted = Tryz.pinned.checked.prog.liftsFinal := by kernel_rfl
set_option maxRecDepth 100000 in
set_option maxHeartbeats 4000000 in
theorem RepB_m12 : Tryz.pinned.checked.prog.make = some Rows.fnRepeatStringTooLargeBoundedRow.make := by kernel_rfl
set_option maxRecDepth 100000 in
set_option maxHeartbeats 4000000 in
theorem RepB_v1 : Rows.fnRepeatStringTooLargeBoundedRow.veiled = (Tryz.f3.params.toList ++ (OpenSpec.ofChange Rows.fnRepeatStringTooLargeBoundedSpec).bare.plain.varTypes Tryz.pinned.checked.prog ++ Tryz.f3.resultTypes.toList).any (Tryz.pinned.checked.prog.veiledRec ·) := by kernel_rfl
set_option maxRecDepth 100000 in
set_option maxHeartbeats 4000000 in
theorem RepB_v2 : Rows.fnRepeatStringTooLargeBoundedRow.veiledFits Tryz.pinned.checked.prog Tryz.f3.params.toList (Tryz.f3.params.toList ++ (OpenSpec.ofChange Rows.fnRepeatStringTooLargeBoundedSpec).bare.plain.varTypes Tryz.pinned.checked.prog ++ Tryz.f3.resultTypes.toList) = true := by kernel_rfl
set_option maxRecDepth 100000 in
set_option maxHeartbeats 4000000 in
theorem RepB_ok (os : Os) : Input.okWideB Tryz.prog ((World.laidAll Tryz.prog os seatLaid0).forCall (fun _ _ => 0) ⟨#[], #[.string ByteArray.empty, .float .f64 0], []⟩) 3 ⟨#[], #[.string ByteArray.empty, .float .f64 0], []⟩ = true := by kernel_rfl
set_option maxRecDepth 100000 in
set_option maxHeartbeats 4000000 in
theorem RepB_pre (os : Os) (H : Type) (enc : TypeId × Value → H) : (OpenSpec.ofChange Rows.fnRepeatStringTooLargeBoundedSpec).bare.preB enc Tryz.prog Tryz.f3 [] false ((World.laidAll Tryz.prog os seatLaid0).forCall (fun _ _ => 0) ⟨#[], #[.string ByteArray.empty, .float .f64 0], []⟩).memory #[.string ByteArray.empty, .float .f64 0] 8 = true := by kernel_rfl
set_option maxRecDepth 100000 in
set_option maxHeartbeats 4000000 in
theorem RepB_sz (os : Os) (H : Type) (enc : TypeId × Value → H) : (OpenSpec.ofChange Rows.fnRepeatStringTooLargeBoundedSpec).bare.sizedB enc Tryz.prog Tryz.f3 false ((World.laidAll Tryz.prog os seatLaid0).forCall (fun _ _ => 0) ⟨#[], #[.string ByteArray.empty, .float .f64 0], []⟩).memory #[.string ByteArray.empty, .float .f64 0] 8 = true := by kernel_rfl
end Go.Proofs.YtdkccihoecpcaaaGreatFmt
