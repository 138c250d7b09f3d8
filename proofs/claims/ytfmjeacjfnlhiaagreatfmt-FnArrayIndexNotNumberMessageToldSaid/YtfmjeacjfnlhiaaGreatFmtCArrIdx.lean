/- Closed facts of the row of FnArrayIndexNotNumberMessage, and of the start at which it is shown to speak of something. Conditions: none. -/
import Derived.Test.YtfmjeacjfnlhiaaGreatFmtWit
import Derived.SevenTiedAt
import Derived.Test.YtfmjeacjfnlhiaaGreatFmtCards
namespace Go.Proofs.YtfmjeacjfnlhiaaGreatFmt
open Go
set_option maxRecDepth 100000 in
set_option maxHeartbeats 4000000 in
theorem ArrIdx_wf : Rows.fnArrayIndexNotNumberMessageRow.wfByText (OpenSpec.ofChange Rows.fnArrayIndexNotNumberMessageSpec) = true := by kernel_rfl
set_option maxRecDepth 100000 in
set_option maxHeartbeats 4000000 in
theorem ArrIdx_tie : namedTie Tryz.pinned.checked.prog Rows.fnArrayIndexNotNumberMessageRow.namedList (OpenSpec.ofChange Rows.fnArrayIndexNotNumberMessageSpec).vars = true := by kernel_rfl
set_option maxRecDepth 100000 in
set_option maxHeartbeats 4000000 in
theorem ArrIdx_named : Tryz.pinned.checked.prog.funcNamed Rows.fnArrayIndexNotNumberMessageRow.func = some 3 := by kernel_rfl
set_option maxRecDepth 100000 in
set_option maxHeartbeats 4000000 in
theorem ArrIdx_read : (Tryz.f3.params.toList.all fun t => Tryz.pinned.checked.prog.readableRec t) = true := by kernel_rfl
set_option maxRecDepth 100000 in
set_option maxHeartbeats 4000000 in
theorem ArrIdx_inp : Rows.fnArrayIndexNotNumberMessageRow.inPlace = Tryz.pinned.checked.prog.inPlace 3 := by kernel_rfl
set_option maxRecDepth 100000 in
set_option maxHeartbeats 4000000 in
theorem ArrIdx_unf : Rows.fnArrayIndexNotNumberMessageRow.unfollowed = Tryz.pinned.checked.prog.unfollowed 3 := by kernel_rfl
set_option maxRecDepth 100000 in
set_option maxHeartbeats 4000000 in
theorem ArrIdx_rec : Rows.fnArrayIndexNotNumberMessageRow.recurses = Tryz.pinned.checked.prog.recurses 3 := by kernel_rfl
set_option maxRecDepth 100000 in
set_option maxHeartbeats 4000000 in
theorem ArrIdx_vars : Rows.fnArrayIndexNotNumberMessageRow.named = Tryz.pinned.checked.prog.varsNamed 3 := by kernel_rfl
set_option maxRecDepth 100000 in
set_option maxHeartbeats 4000000 in
theorem ArrIdx_maps : Rows.fnArrayIndexNotNumberMessageRow.maps = (Tryz.f3.params.toList ++ (OpenSpec.ofChange Rows.fnArrayIndexNotNumberMessageSpec).bare.plain.varTypes Tryz.pinned.checked.prog).any (Tryz.pinned.checked.prog.mapsRec ·) := by kernel_rfl
set_option maxRecDepth 100000 in
set_option maxHeartbeats 4000000 in
theorem ArrIdx_ifs : Rows.fnArrayIndexNotNumberMessageRow.ifaces = (Tryz.f3.params.toList ++ (OpenSpec.ofChange Rows.fnArrayIndexNotNumberMessageSpec).bare.plain.varTypes Tryz.pinned.checked.prog).any (Tryz.pinned.checked.prog.ifacesRec ·) := by kernel_rfl
set_option maxRecDepth 100000 in
set_option maxHeartbeats 4000000 in
theorem ArrIdx_mo : Rows.fnArrayIndexNotNumberMessageRow.mapsOut = Tryz.pinned.checked.prog.mapsAmong Tryz.f3.resultTypes.toList := by kernel_rfl
set_option maxRecDepth 100000 in
set_option maxHeartbeats 4000000 in
theorem ArrIdx_lo : Rows.fnArrayIndexNotNumberMessageRow.loops = (Tryz.f3.params.toList ++ (OpenSpec.ofChange Rows.fnArrayIndexNotNumberMessageSpec).bare.plain.varTypes Tryz.pinned.checked.prog).any (Tryz.pinned.checked.prog.loopsFrom ·) := by kernel_rfl
set_option maxRecDepth 100000 in
set_option maxHeartbeats 4000000 in
theorem ArrIdx_wk : Rows.fnArrayIndexNotNumberMessageRow.wideKeys = (Tryz.f3.params.toList ++ (OpenSpec.ofChange Rows.fnArrayIndexNotNumberMessageSpec).bare.plain.varTypes Tryz.pinned.checked.prog ++ Tryz.f3.resultTypes.toList).any (Tryz.pinned.checked.prog.wideKeysFrom ·) := by kernel_rfl
set_option maxRecDepth 100000 in
set_option maxHeartbeats 4000000 in
theorem ArrIdx_vr : ((OpenSpec.ofChange Rows.fnArrayIndexNotNumberMessageSpec).vars.all fun n => Tryz.pinned.checked.prog.varReadable n) = true := by kernel_rfl
set_option maxRecDepth 100000 in
set_option maxHeartbeats 4000000 in
theorem ArrIdx_si : (Tryz.f3.params.toList.all fun t => !Tryz.pinned.checked.prog.wantsStandIn t) = true := by kernel_rfl
set_option maxRecDepth 100000 in
set_option maxHeartbeats 4000000 in
theorem ArrIdx_goes : false = Rows.fnArrayIndexNotNumberMessageRow.goesBy Tryz.pinned.checked.prog := by kernel_rfl
set_option maxRecDepth 100000 in
set_option maxHeartbeats 4000000 in
theorem ArrIdx_m4 : (Tryz.f3.resultTypes.toList.all fun t => Tryz.pinned.checked.prog.readableRec t && decide (t < Tryz.pinned.checked.prog.types.size)) = true := by kernel_rfl
set_option maxRecDepth 100000 in
set_option maxHeartbeats 4000000 in
theorem ArrIdx_m6 : Rows.fnArrayIndexNotNumberMessageRow.ifacesOut = Tryz.f3.resultTypes.toList.any (Tryz.pinned.checked.prog.ifacesRec ·) := by kernel_rfl
set_option maxRecDepth 100000 in
set_option maxHeartbeats 4000000 in
theorem ArrIdx_m7 : Rows.fnArrayIndexNotNumberMessageRow.loopsOut = Tryz.f3.resultTypes.toList.any (Tryz.pinned.checked.prog.loopsFrom ·) := by kernel_rfl
set_option maxRecDepth 100000 in
set_option maxHeartbeats 4000000 in
theorem ArrIdx_m8 : Rows.fnArrayIndexNotNumberMessageRow.kinds = (if Rows.fnArrayIndexNotNumberMessageRow.domain.isEmpty then [] else Tryz.f3.params.toList.map fun t => match Tryz.pinned.checked.prog.underlying t with | some (.int k) => some k | _ => none) := by kernel_rfl
set_option maxRecDepth 100000 in
set_option maxHeartbeats 4000000 in
theorem ArrIdx_m9 : Rows.fnArrayIndexNotNumberMessageRow.pinned = Rows.fnArrayIndexNotNumberMessageRow.pinnedBy := by kernel_rfl
set_option maxRecDepth 100000 in
set_option maxHeartbeats 4000000 in
theorem ArrIdx_m10 : Rows.fnArrayIndexNotNumberMessageRow.plainKeys = Tryz.pinned.checked.prog.plainKeys := by kernel_rfl
set_option maxRecDepth 100000 in
set_option maxHeartbeats 4000000 in
theorem ArrIdx_m11 : Rows.fnArrayIndexNotNumberMessageRow.lifted = Tryz.pinned.checked.prog.liftsFinal := by kernel_rfl
set_option maxRecDepth 100000 in
set_option maxHeartbeats 4000000 in
theorem ArrIdx_m12 : Tryz.pinned.checked.prog.make = some Rows.fnArrayIndexNotNumberMessageRow.make := by kernel_rfl
set_option maxRecDepth 100000 in
set_option maxHeartbeats 4000000 in
theorem ArrIdx_v1 : Rows.fnArrayIndexNotNumberMessageRow.veiled = (Tryz.f3.params.toList ++ (OpenSpec.ofChange Rows.fnArrayIndexNotNumberMessageSpec).bare.plain.varTypes Tryz.pinned.checked.prog ++ Tryz.f3.resultTypes.toList).any (Tryz.pinned.checked.prog.veiledRec ·) := by kernel_rfl
set_option maxRecDepth 100000 in
set_option maxHeartbeats 4000000 in
theorem ArrIdx_v2 : Rows.fnArrayIndexNotNumberMessageRow.veiledFits Tryz.pinned.checked.prog Tryz.f3.params.toList (Tryz.f3.params.toList ++ (OpenSpec.ofChange Rows.fnArrayIndexNotNumberMessageSpec).bare.plain.varTypes Tryz.pinned.checked.prog ++ Tryz.f3.resultTypes.toList) = true := by kernel_rfl
set_option maxRecDepth 100000 in
set_option maxHeartbeats 4000000 in
theorem ArrIdx_ok (os : Os) : Input.okWideB Tryz.prog ((World.laidAll Tryz.prog os seatLaid0).forCall (fun _ _ => 0) ⟨#[], #[.int .u8 0, .bool false], []⟩) 3 ⟨#[], #[.int .u8 0, .bool false], []⟩ = true := by kernel_rfl
set_option maxRecDepth 100000 in
set_option maxHeartbeats 4000000 in
theorem ArrIdx_pre (os : Os) (H : Type) (enc : TypeId × Value → H) : (OpenSpec.ofChange Rows.fnArrayIndexNotNumberMessageSpec).bare.preB enc Tryz.prog Tryz.f3 [] false ((World.laidAll Tryz.prog os seatLaid0).forCall (fun _ _ => 0) ⟨#[], #[.int .u8 0, .bool false], []⟩).memory #[.int .u8 0, .bool false] 8 = true := by kernel_rfl
set_option maxRecDepth 100000 in
set_option maxHeartbeats 4000000 in
theorem ArrIdx_sz (os : Os) (H : Type) (enc : TypeId × Value → H) : (OpenSpec.ofChange Rows.fnArrayIndexNotNumberMessageSpec).bare.sizedB enc Tryz.prog Tryz.f3 false ((World.laidAll Tryz.prog os seatLaid0).forCall (fun _ _ => 0) ⟨#[], #[.int .u8 0, .bool false], []⟩).memory #[.int .u8 0, .bool false] 8 = true := by kernel_rfl
end Go.Proofs.YtfmjeacjfnlhiaaGreatFmt
