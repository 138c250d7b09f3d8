/- Closed facts of the row of FnArrayIndexTooLargeMessage, and of the start at which it is shown to speak of something. Conditions: none. -/
import Derived.Test.YtfmjeacjfnlhiaaGreatFmtWit
import Derived.SevenTiedAt
import Derived.Test.YtfmjeacjfnlhiaaGreatFmtCards
namespace Go.Proofs.YtfmjeacjfnlhiaaGreatFmt
open Go
set_option maxRecDepth 100000 in
set_option maxHeartbeats 4000000 in
theorem Big_wf : Rows.fnArrayIndexTooLargeMessageRow.wfByText (OpenSpec.ofChange Rows.fnArrayIndexTooLargeMessageSpec) = true := by kernel_rfl
set_option maxRecDepth 100000 in
set_option maxHeartbeats 4000000 in
theorem Big_tie : namedTie Tryz.pinned.checked.prog Rows.fnArrayIndexTooLargeMessageRow.namedList (OpenSpec.ofChange Rows.fnArrayIndexTooLargeMessageSpec).vars = true := by kernel_rfl
set_option maxRecDepth 100000 in
set_option maxHeartbeats 4000000 in
theorem Big_named : Tryz.pinned.checked.prog.funcNamed Rows.fnArrayIndexTooLargeMessageRow.func = some 5 := by kernel_rfl
set_option maxRecDepth 100000 in
set_option maxHeartbeats 4000000 in
theorem Big_read : (Tryz.f5.params.toList.all fun t => Tryz.pinned.checked.prog.readableRec t) = true := by kernel_rfl
set_option maxRecDepth 100000 in
set_option maxHeartbeats 4000000 in
theorem Big_inp : Rows.fnArrayIndexTooLargeMessageRow.inPlace = Tryz.pinned.checked.prog.inPlace 5 := by kernel_rfl
set_option maxRecDepth 100000 in
set_option maxHeartbeats 4000000 in
theorem Big_unf : Rows.fnArrayIndexTooLargeMessageRow.unfollowed = Tryz.pinned.checked.prog.unfollowed 5 := by kernel_rfl
set_option maxRecDepth 100000 in
set_option maxHeartbeats 4000000 in
theorem Big_rec : Rows.fnArrayIndexTooLargeMessageRow.recurses = Tryz.pinned.checked.prog.recurses 5 := by kernel_rfl
set_option maxRecDepth 100000 in
set_option maxHeartbeats 4000000 in
theorem Big_vars : Rows.fnArrayIndexTooLargeMessageRow.named = Tryz.pinned.checked.prog.varsNamed 5 := by kernel_rfl
set_option maxRecDepth 100000 in
set_option maxHeartbeats 4000000 in
theorem Big_maps : Rows.fnArrayIndexTooLargeMessageRow.maps = (Tryz.f5.params.toList ++ (OpenSpec.ofChange Rows.fnArrayIndexTooLargeMessageSpec).bare.plain.varTypes Tryz.pinned.checked.prog).any (Tryz.pinned.checked.prog.mapsRec ·) := by kernel_rfl
set_option maxRecDepth 100000 in
set_option maxHeartbeats 4000000 in
theorem Big_ifs : Rows.fnArrayIndexTooLargeMessageRow.ifaces = (Tryz.f5.params.toList ++ (OpenSpec.ofChange Rows.fnArrayIndexTooLargeMessageSpec).bare.plain.varTypes Tryz.pinned.checked.prog).any (Tryz.pinned.checked.prog.ifacesRec ·) := by kernel_rfl
set_option maxRecDepth 100000 in
set_option maxHeartbeats 4000000 in
theorem Big_mo : Rows.fnArrayIndexTooLargeMessageRow.mapsOut = Tryz.pinned.checked.prog.mapsAmong Tryz.f5.resultTypes.toList := by kernel_rfl
set_option maxRecDepth 100000 in
set_option maxHeartbeats 4000000 in
theorem Big_lo : Rows.fnArrayIndexTooLargeMessageRow.loops = (Tryz.f5.params.toList ++ (OpenSpec.ofChange Rows.fnArrayIndexTooLargeMessageSpec).bare.plain.varTypes Tryz.pinned.checked.prog).any (Tryz.pinned.checked.prog.loopsFrom ·) := by kernel_rfl
set_option maxRecDepth 100000 in
set_option maxHeartbeats 4000000 in
theorem Big_wk : Rows.fnArrayIndexTooLargeMessageRow.wideKeys = (Tryz.f5.params.toList ++ (OpenSpec.ofChange Rows.fnArrayIndexTooLargeMessageSpec).bare.plain.varTypes Tryz.pinned.checked.prog ++ Tryz.f5.resultTypes.toList).any (Tryz.pinned.checked.prog.wideKeysFrom ·) := by kernel_rfl
set_option maxRecDepth 100000 in
set_option maxHeartbeats 4000000 in
theorem Big_vr : ((OpenSpec.ofChange Rows.fnArrayIndexTooLargeMessageSpec).vars.all fun n => Tryz.pinned.checked.prog.varReadable n) = true := by kernel_rfl
set_option maxRecDepth 100000 in
set_option maxHeartbeats 4000000 in
theorem Big_si : (Tryz.f5.params.toList.all fun t => !Tryz.pinned.checked.prog.wantsStandIn t) = true := by kernel_rfl
set_option maxRecDepth 100000 in
set_option maxHeartbeats 4000000 in
theorem Big_goes : false = Rows.fnArrayIndexTooLargeMessageRow.goesBy Tryz.pinned.checked.prog := by kernel_rfl
set_option maxRecDepth 100000 in
set_option maxHeartbeats 4000000 in
theorem Big_m4 : (Tryz.f5.resultTypes.toList.all fun t => Tryz.pinned.checked.prog.readableRec t && decide (t < Tryz.pinned.checked.prog.types.size)) = true := by kernel_rfl
set_option maxRecDepth 100000 in
set_option maxHeartbeats 4000000 in
theorem Big_m6 : Rows.fnArrayIndexTooLargeMessageRow.ifacesOut = Tryz.f5.resultTypes.toList.any (Tryz.pinned.checked.prog.ifacesRec ·) := by kernel_rfl
set_option maxRecDepth 100000 in
set_option maxHeartbeats 4000000 in
theorem Big_m7 : Rows.fnArrayIndexTooLargeMessageRow.loopsOut = Tryz.f5.resultTypes.toList.any (Tryz.pinned.checked.prog.loopsFrom ·) := by kernel_rfl
set_option maxRecDepth 100000 in
set_option maxHeartbeats 4000000 in
theorem Big_m8 : Rows.fnArrayIndexTooLargeMessageRow.kinds = (if Rows.fnArrayIndexTooLargeMessageRow.domain.isEmpty then [] else Tryz.f5.params.toList.map fun t => match Tryz.pinned.checked.prog.underlying t with | some (.int k) => some k | _ => none) := by kernel_rfl
set_option maxRecDepth 100000 in
set_option maxHeartbeats 4000000 in
theorem Big_m9 : Rows.fnArrayIndexTooLargeMessageRow.pinned = Rows.fnArrayIndexTooLargeMessageRow.pinnedBy := by kernel_rfl
set_option maxRecDepth 100000 in
set_option maxHeartbeats 4000000 in
theorem Big_m10 : Rows.fnArrayIndexTooLargeMessageRow.plainKeys = Tryz.pinned.checked.prog.plainKeys := by kernel_rfl
set_option maxRecDepth 100000 in
set_option maxHeartbeats 4000000 in
theorem Big_m11 : Rows.fnArrayIndexTooLargeMessageRow.lifted = Tryz.pinned.checked.prog.liftsFinal := by kernel_rfl
set_option maxRecDepth 100000 in
set_option maxHeartbeats 4000000 in
theorem Big_m12 : Tryz.pinned.checked.prog.make = some Rows.fnArrayIndexTooLargeMessageRow.make := by kernel_rfl
set_option maxRecDepth 100000 in
set_option maxHeartbeats 4000000 in
theorem Big_v1 : Rows.fnArrayIndexTooLargeMessageRow.veiled = (Tryz.f5.params.toList ++ (OpenSpec.ofChange Rows.fnArrayIndexTooLargeMessageSpec).bare.plain.varTypes Tryz.pinned.checked.prog ++ Tryz.f5.resultTypes.toList).any (Tryz.pinned.checked.prog.veiledRec ·) := by kernel_rfl
set_option maxRecDepth 100000 in
set_option maxHeartbeats 4000000 in
theorem Big_v2 : Rows.fnArrayIndexTooLargeMessageRow.veiledFits Tryz.pinned.checked.prog Tryz.f5.params.toList (Tryz.f5.params.toList ++ (OpenSpec.ofChange Rows.fnArrayIndexTooLargeMessageSpec).bare.plain.varTypes Tryz.pinned.checked.prog ++ Tryz.f5.resultTypes.toList) = true := by kernel_rfl
set_option maxRecDepth 100000 in
set_option maxHeartbeats 4000000 in
theorem Big_ok (os : Os) : Input.okWideB Tryz.prog ((World.laidAll Tryz.prog os seatLaid0).forCall (fun _ _ => 0) ⟨#[], #[.int .i64 0], []⟩) 5 ⟨#[], #[.int .i64 0], []⟩ = true := by kernel_rfl
set_option maxRecDepth 100000 in
set_option maxHeartbeats 4000000 in
theorem Big_pre (os : Os) (H : Type) (enc : TypeId × Value → H) : (OpenSpec.ofChange Rows.fnArrayIndexTooLargeMessageSpec).bare.preB enc Tryz.prog Tryz.f5 [] false ((World.laidAll Tryz.prog os seatLaid0).forCall (fun _ _ => 0) ⟨#[], #[.int .i64 0], []⟩).memory #[.int .i64 0] 8 = true := by kernel_rfl
set_option maxRecDepth 100000 in
set_option maxHeartbeats 4000000 in
theorem Big_sz (os : Os) (H : Type) (enc : TypeId × Value → H) : (OpenSpec.ofChange Rows.fnArrayIndexTooLargeMessageSpec).bare.sizedB enc Tryz.prog Tryz.f5 false ((World.laidAll Tryz.prog os seatLaid0).forCall (fun _ _ => 0) ⟨#[], #[.int .i64 0], []⟩).memory #[.int .i64 0] 8 = true := by kernel_rfl
end Go.Proofs.YtfmjeacjfnlhiaaGreatFmt
