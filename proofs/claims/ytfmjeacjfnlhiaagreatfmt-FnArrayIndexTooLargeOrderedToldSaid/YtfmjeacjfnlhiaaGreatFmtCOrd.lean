/- Closed facts of the row of FnArrayIndexTooLargeOrdered, and of the start at which it is shown to speak of something. Conditions: none. -/
import Derived.Test.YtfmjeacjfnlhiaaGreatFmtWit
import Derived.SevenTiedAt
import Derived.Test.YtfmjeacjfnlhiaaGreatFmtCards
namespace Go.Proofs.YtfmjeacjfnlhiaaGreatFmt
open Go
set_option maxRecDepth 100000 in
set_option maxHeartbeats 4000000 in
theorem Ord_wf : Rows.fnArrayIndexTooLargeOrderedRow.wfByText (OpenSpec.ofChange Rows.fnArrayIndexTooLargeOrderedSpec) = true := by kernel_rfl
set_option maxRecDepth 100000 in
set_option maxHeartbeats 4000000 in
theorem Ord_tie : namedTie Tryz.pinned.checked.prog Rows.fnArrayIndexTooLargeOrderedRow.namedList (OpenSpec.ofChange Rows.fnArrayIndexTooLargeOrderedSpec).vars = true := by kernel_rfl
set_option maxRecDepth 100000 in
set_option maxHeartbeats 4000000 in
theorem Ord_named : Tryz.pinned.checked.prog.funcNamed Rows.fnArrayIndexTooLargeOrderedRow.func = some 7 := by kernel_rfl
set_option maxRecDepth 100000 in
set_option maxHeartbeats 4000000 in
theorem Ord_read : (Tryz.f7.params.toList.all fun t => Tryz.pinned.checked.prog.readableRec t) = true := by kernel_rfl
set_option maxRecDepth 100000 in
set_option maxHeartbeats 4000000 in
theorem Ord_inp : Rows.fnArrayIndexTooLargeOrderedRow.inPlace = Tryz.pinned.checked.prog.inPlace 7 := by kernel_rfl
set_option maxRecDepth 100000 in
set_option maxHeartbeats 4000000 in
theorem Ord_unf : Rows.fnArrayIndexTooLargeOrderedRow.unfollowed = Tryz.pinned.checked.prog.unfollowed 7 := by kernel_rfl
set_option maxRecDepth 100000 in
set_option maxHeartbeats 4000000 in
theorem Ord_rec : Rows.fnArrayIndexTooLargeOrderedRow.recurses = Tryz.pinned.checked.prog.recurses 7 := by kernel_rfl
set_option maxRecDepth 100000 in
set_option maxHeartbeats 4000000 in
theorem Ord_vars : Rows.fnArrayIndexTooLargeOrderedRow.named = Tryz.pinned.checked.prog.varsNamed 7 := by kernel_rfl
set_option maxRecDepth 100000 in
set_option maxHeartbeats 4000000 in
theorem Ord_maps : Rows.fnArrayIndexTooLargeOrderedRow.maps = (Tryz.f7.params.toList ++ (OpenSpec.ofChange Rows.fnArrayIndexTooLargeOrderedSpec).bare.plain.varTypes Tryz.pinned.checked.prog).any (Tryz.pinned.checked.prog.mapsRec ·) := by kernel_rfl
set_option maxRecDepth 100000 in
set_option maxHeartbeats 4000000 in
theorem Ord_ifs : Rows.fnArrayIndexTooLargeOrderedRow.ifaces = (Tryz.f7.params.toList ++ (OpenSpec.ofChange Rows.fnArrayIndexTooLargeOrderedSpec).bare.plain.varTypes Tryz.pinned.checked.prog).any (Tryz.pinned.checked.prog.ifacesRec ·) := by kernel_rfl
set_option maxRecDepth 100000 in
set_option maxHeartbeats 4000000 in
theorem Ord_mo : Rows.fnArrayIndexTooLargeOrderedRow.mapsOut = Tryz.pinned.checked.prog.mapsAmong Tryz.f7.resultTypes.toList := by kernel_rfl
set_option maxRecDepth 100000 in
set_option maxHeartbeats 4000000 in
theorem Ord_lo : Rows.fnArrayIndexTooLargeOrderedRow.loops = (Tryz.f7.params.toList ++ (OpenSpec.ofChange Rows.fnArrayIndexTooLargeOrderedSpec).bare.plain.varTypes Tryz.pinned.checked.prog).any (Tryz.pinned.checked.prog.loopsFrom ·) := by kernel_rfl
set_option maxRecDepth 100000 in
set_option maxHeartbeats 4000000 in
theorem Ord_wk : Rows.fnArrayIndexTooLargeOrderedRow.wideKeys = (Tryz.f7.params.toList ++ (OpenSpec.ofChange Rows.fnArrayIndexTooLargeOrderedSpec).bare.plain.varTypes Tryz.pinned.checked.prog ++ Tryz.f7.resultTypes.toList).any (Tryz.pinned.checked.prog.wideKeysFrom ·) := by kernel_rfl
set_option maxRecDepth 100000 in
set_option maxHeartbeats 4000000 in
theorem Ord_vr : ((OpenSpec.ofChange Rows.fnArrayIndexTooLargeOrderedSpec).vars.all fun n => Tryz.pinned.checked.prog.varReadable n) = true := by kernel_rfl
set_option maxRecDepth 100000 in
set_option maxHeartbeats 4000000 in
theorem Ord_si : (Tryz.f7.params.toList.all fun t => !Tryz.pinned.checked.prog.wantsStandIn t) = true := by kernel_rfl
set_option maxRecDepth 100000 in
set_option maxHeartbeats 4000000 in
theorem Ord_goes : false = Rows.fnArrayIndexTooLargeOrderedRow.goesBy Tryz.pinned.checked.prog := by kernel_rfl
set_option maxRecDepth 100000 in
set_option maxHeartbeats 4000000 in
theorem Ord_m4 : (Tryz.f7.resultTypes.toList.all fun t => Tryz.pinned.checked.prog.readableRec t && decide (t < Tryz.pinned.checked.prog.types.size)) = true := by kernel_rfl
set_option maxRecDepth 100000 in
set_option maxHeartbeats 4000000 in
theorem Ord_m6 : Rows.fnArrayIndexTooLargeOrderedRow.ifacesOut = Tryz.f7.resultTypes.toList.any (Tryz.pinned.checked.prog.ifacesRec ·) := by kernel_rfl
set_option maxRecDepth 100000 in
set_option maxHeartbeats 4000000 in
theorem Ord_m7 : Rows.fnArrayIndexTooLargeOrderedRow.loopsOut = Tryz.f7.resultTypes.toList.any (Tryz.pinned.checked.prog.loopsFrom ·) := by kernel_rfl
set_option maxRecDepth 100000 in
set_option maxHeartbeats 4000000 in
theorem Ord_m8 : Rows.fnArrayIndexTooLargeOrderedRow.kinds = (if Rows.fnArrayIndexTooLargeOrderedRow.domain.isEmpty then [] else Tryz.f7.params.toList.map fun t => match Tryz.pinned.checked.prog.underlying t with | some (.int k) => some k | _ => none) := by kernel_rfl
set_option maxRecDepth 100000 in
set_option maxHeartbeats 4000000 in
theorem Ord_m9 : Rows.fnArrayIndexTooLargeOrderedRow.pinned = Rows.fnArrayIndexTooLargeOrderedRow.pinnedBy := by kernel_rfl
set_option maxRecDepth 100000 in
set_option maxHeartbeats 4000000 in
theorem Ord_m10 : Rows.fnArrayIndexTooLargeOrderedRow.plainKeys = Tryz.pinned.checked.prog.plainKeys := by kernel_rfl
set_option maxRecDepth 100000 in
set_option maxHeartbeats 4000000 in
theorem Ord_m11 : Rows.fnArrayIndexTooLargeOrderedRow.lifted = Tryz.pinned.checked.prog.liftsFinal := by kernel_rfl
set_option maxRecDepth 100000 in
set_option maxHeartbeats 4000000 in
theorem Ord_m12 : Tryz.pinned.checked.prog.make = some Rows.fnArrayIndexTooLargeOrderedRow.make := by kernel_rfl
set_option maxRecDepth 100000 in
set_option maxHeartbeats 4000000 in
theorem Ord_v1 : Rows.fnArrayIndexTooLargeOrderedRow.veiled = (Tryz.f7.params.toList ++ (OpenSpec.ofChange Rows.fnArrayIndexTooLargeOrderedSpec).bare.plain.varTypes Tryz.pinned.checked.prog ++ Tryz.f7.resultTypes.toList).any (Tryz.pinned.checked.prog.veiledRec ·) := by kernel_rfl
set_option maxRecDepth 100000 in
set_option maxHeartbeats 4000000 in
theorem Ord_v2 : Rows.fnArrayIndexTooLargeOrderedRow.veiledFits Tryz.pinned.checked.prog Tryz.f7.params.toList (Tryz.f7.params.toList ++ (OpenSpec.ofChange Rows.fnArrayIndexTooLargeOrderedSpec).bare.plain.varTypes Tryz.pinned.checked.prog ++ Tryz.f7.resultTypes.toList) = true := by kernel_rfl
set_option maxRecDepth 100000 in
set_option maxHeartbeats 4000000 in
theorem Ord_ok (os : Os) : Input.okWideB Tryz.prog ((World.laidAll Tryz.prog os seatLaid0).forCall (fun _ _ => 0) ⟨#[], #[.int .i64 0, .int .i64 0], []⟩) 7 ⟨#[], #[.int .i64 0, .int .i64 0], []⟩ = true := by kernel_rfl
set_option maxRecDepth 100000 in
set_option maxHeartbeats 4000000 in
theorem Ord_pre (os : Os) (H : Type) (enc : TypeId × Value → H) : (OpenSpec.ofChange Rows.fnArrayIndexTooLargeOrderedSpec).bare.preB enc Tryz.prog Tryz.f7 [] false ((World.laidAll Tryz.prog os seatLaid0).forCall (fun _ _ => 0) ⟨#[], #[.int .i64 0, .int .i64 0], []⟩).memory #[.int .i64 0, .int .i64 0] 8 = true := by kernel_rfl
set_option maxRecDepth 100000 in
set_option maxHeartbeats 4000000 in
theorem Ord_sz (os : Os) (H : Type) (enc : TypeId × Value → H) : (OpenSpec.ofChange Rows.fnArrayIndexTooLargeOrderedSpec).bare.sizedB enc Tryz.prog Tryz.f7 false ((World.laidAll Tryz.prog os seatLaid0).forCall (fun _ _ => 0) ⟨#[], #[.int .i64 0, .int .i64 0], []⟩).memory #[.int .i64 0, .int .i64 0] 8 = true := by kernel_rfl
end Go.Proofs.YtfmjeacjfnlhiaaGreatFmt
