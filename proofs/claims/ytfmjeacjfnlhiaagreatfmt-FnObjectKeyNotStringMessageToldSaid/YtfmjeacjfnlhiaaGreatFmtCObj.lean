/- Closed facts of the row of FnObjectKeyNotStringMessage, and of the start at which it is shown to speak of something. Conditions: none. -/
import Derived.Test.YtfmjeacjfnlhiaaGreatFmtWit
import Derived.SevenTiedAt
import Derived.Test.YtfmjeacjfnlhiaaGreatFmtCards
namespace Go.Proofs.YtfmjeacjfnlhiaaGreatFmt
open Go
set_option maxRecDepth 100000 in
set_option maxHeartbeats 4000000 in
theorem Obj_wf : Rows.fnObjectKeyNotStringMessageRow.wfByText (OpenSpec.ofChange Rows.fnObjectKeyNotStringMessageSpec) = true := by kernel_rfl
set_option maxRecDepth 100000 in
set_option maxHeartbeats 4000000 in
theorem Obj_tie : namedTie Tryz.pinned.checked.prog Rows.fnObjectKeyNotStringMessageRow.namedList (OpenSpec.ofChange Rows.fnObjectKeyNotStringMessageSpec).vars = true := by kernel_rfl
set_option maxRecDepth 100000 in
set_option maxHeartbeats 4000000 in
theorem Obj_named : Tryz.pinned.checked.prog.funcNamed Rows.fnObjectKeyNotStringMessageRow.func = some 4 := by kernel_rfl
set_option maxRecDepth 100000 in
set_option maxHeartbeats 4000000 in
theorem Obj_read : (Tryz.f4.params.toList.all fun t => Tryz.pinned.checked.prog.readableRec t) = true := by kernel_rfl
set_option maxRecDepth 100000 in
set_option maxHeartbeats 4000000 in
theorem Obj_inp : Rows.fnObjectKeyNotStringMessageRow.inPlace = Tryz.pinned.checked.prog.inPlace 4 := by kernel_rfl
set_option maxRecDepth 100000 in
set_option maxHeartbeats 4000000 in
theorem Obj_unf : Rows.fnObjectKeyNotStringMessageRow.unfollowed = Tryz.pinned.checked.prog.unfollowed 4 := by kernel_rfl
set_option maxRecDepth 100000 in
set_option maxHeartbeats 4000000 in
theorem Obj_rec : Rows.fnObjectKeyNotStringMessageRow.recurses = Tryz.pinned.checked.prog.recurses 4 := by kernel_rfl
set_option maxRecDepth 100000 in
set_option maxHeartbeats 4000000 in
theorem Obj_vars : Rows.fnObjectKeyNotStringMessageRow.named = Tryz.pinned.checked.prog.varsNamed 4 := by kernel_rfl
set_option maxRecDepth 100000 in
set_option maxHeartbeats 4000000 in
theorem Obj_maps : Rows.fnObjectKeyNotStringMessageRow.maps = (Tryz.f4.params.toList ++ (OpenSpec.ofChange Rows.fnObjectKeyNotStringMessageSpec).bare.plain.varTypes Tryz.pinned.checked.prog).any (Tryz.pinned.checked.prog.mapsRec ·) := by kernel_rfl
set_option maxRecDepth 100000 in
set_option maxHeartbeats 4000000 in
theorem Obj_ifs : Rows.fnObjectKeyNotStringMessageRow.ifaces = (Tryz.f4.params.toList ++ (OpenSpec.ofChange Rows.fnObjectKeyNotStringMessageSpec).bare.plain.varTypes Tryz.pinned.checked.prog).any (Tryz.pinned.checked.prog.ifacesRec ·) := by kernel_rfl
set_option maxRecDepth 100000 in
set_option maxHeartbeats 4000000 in
theorem Obj_mo : Rows.fnObjectKeyNotStringMessageRow.mapsOut = Tryz.pinned.checked.prog.mapsAmong Tryz.f4.resultTypes.toList := by kernel_rfl
set_option maxRecDepth 100000 in
set_option maxHeartbeats 4000000 in
theorem Obj_lo : Rows.fnObjectKeyNotStringMessageRow.loops = (Tryz.f4.params.toList ++ (OpenSpec.ofChange Rows.fnObjectKeyNotStringMessageSpec).bare.plain.varTypes Tryz.pinned.checked.prog).any (Tryz.pinned.checked.prog.loopsFrom ·) := by kernel_rfl
set_option maxRecDepth 100000 in
set_option maxHeartbeats 4000000 in
theorem Obj_wk : Rows.fnObjectKeyNotStringMessageRow.wideKeys = (Tryz.f4.params.toList ++ (OpenSpec.ofChange Rows.fnObjectKeyNotStringMessageSpec).bare.plain.varTypes Tryz.pinned.checked.prog ++ Tryz.f4.resultTypes.toList).any (Tryz.pinned.checked.prog.wideKeysFrom ·) := by kernel_rfl
set_option maxRecDepth 100000 in
set_option maxHeartbeats 4000000 in
theorem Obj_vr : ((OpenSpec.ofChange Rows.fnObjectKeyNotStringMessageSpec).vars.all fun n => Tryz.pinned.checked.prog.varReadable n) = true := by kernel_rfl
set_option maxRecDepth 100000 in
set_option maxHeartbeats 4000000 in
theorem Obj_si : (Tryz.f4.params.toList.all fun t => !Tryz.pinned.checked.prog.wantsStandIn t) = true := by kernel_rfl
set_option maxRecDepth 100000 in
set_option maxHeartbeats 4000000 in
theorem Obj_goes : false = Rows.fnObjectKeyNotStringMessageRow.goesBy Tryz.pinned.checked.prog := by kernel_rfl
set_option maxRecDepth 100000 in
set_option maxHeartbeats 4000000 in
theorem Obj_m4 : (Tryz.f4.resultTypes.toList.all fun t => Tryz.pinned.checked.prog.readableRec t && decide (t < Tryz.pinned.checked.prog.types.size)) = true := by kernel_rfl
set_option maxRecDepth 100000 in
set_option maxHeartbeats 4000000 in
theorem Obj_m6 : Rows.fnObjectKeyNotStringMessageRow.ifacesOut = Tryz.f4.resultTypes.toList.any (Tryz.pinned.checked.prog.ifacesRec ·) := by kernel_rfl
set_option maxRecDepth 100000 in
set_option maxHeartbeats 4000000 in
theorem Obj_m7 : Rows.fnObjectKeyNotStringMessageRow.loopsOut = Tryz.f4.resultTypes.toList.any (Tryz.pinned.checked.prog.loopsFrom ·) := by kernel_rfl
set_option maxRecDepth 100000 in
set_option maxHeartbeats 4000000 in
theorem Obj_m8 : Rows.fnObjectKeyNotStringMessageRow.kinds = (if Rows.fnObjectKeyNotStringMessageRow.domain.isEmpty then [] else Tryz.f4.params.toList.map fun t => match Tryz.pinned.checked.prog.underlying t with | some (.int k) => some k | _ => none) := by kernel_rfl
set_option maxRecDepth 100000 in
set_option maxHeartbeats 4000000 in
theorem Obj_m9 : Rows.fnObjectKeyNotStringMessageRow.pinned = Rows.fnObjectKeyNotStringMessageRow.pinnedBy := by kernel_rfl
set_option maxRecDepth 100000 in
set_option maxHeartbeats 4000000 in
theorem Obj_m10 : Rows.fnObjectKeyNotStringMessageRow.plainKeys = Tryz.pinned.checked.prog.plainKeys := by kernel_rfl
set_option maxRecDepth 100000 in
set_option maxHeartbeats 4000000 in
theorem Obj_m11 : Rows.fnObjectKeyNotStringMessageRow.lifted = Tryz.pinned.checked.prog.liftsFinal := by kernel_rfl
set_option maxRecDepth 100000 in
set_option maxHeartbeats 4000000 in
theorem Obj_m12 : Tryz.pinned.checked.prog.make = some Rows.fnObjectKeyNotStringMessageRow.make := by kernel_rfl
set_option maxRecDepth 100000 in
set_option maxHeartbeats 4000000 in
theorem Obj_v1 : Rows.fnObjectKeyNotStringMessageRow.veiled = (Tryz.f4.params.toList ++ (OpenSpec.ofChange Rows.fnObjectKeyNotStringMessageSpec).bare.plain.varTypes Tryz.pinned.checked.prog ++ Tryz.f4.resultTypes.toList).any (Tryz.pinned.checked.prog.veiledRec ·) := by kernel_rfl
set_option maxRecDepth 100000 in
set_option maxHeartbeats 4000000 in
theorem Obj_v2 : Rows.fnObjectKeyNotStringMessageRow.veiledFits Tryz.pinned.checked.prog Tryz.f4.params.toList (Tryz.f4.params.toList ++ (OpenSpec.ofChange Rows.fnObjectKeyNotStringMessageSpec).bare.plain.varTypes Tryz.pinned.checked.prog ++ Tryz.f4.resultTypes.toList) = true := by kernel_rfl
set_option maxRecDepth 100000 in
set_option maxHeartbeats 4000000 in
theorem Obj_ok (os : Os) : Input.okWideB Tryz.prog ((World.laidAll Tryz.prog os seatLaid0).forCall (fun _ _ => 0) ⟨#[], #[.int .u8 0, .bool false, .int .i64 0], []⟩) 4 ⟨#[], #[.int .u8 0, .bool false, .int .i64 0], []⟩ = true := by kernel_rfl
set_option maxRecDepth 100000 in
set_option maxHeartbeats 4000000 in
theorem Obj_pre (os : Os) (H : Type) (enc : TypeId × Value → H) : (OpenSpec.ofChange Rows.fnObjectKeyNotStringMessageSpec).bare.preB enc Tryz.prog Tryz.f4 [] false ((World.laidAll Tryz.prog os seatLaid0).forCall (fun _ _ => 0) ⟨#[], #[.int .u8 0, .bool false, .int .i64 0], []⟩).memory #[.int .u8 0, .bool false, .int .i64 0] 8 = true := by kernel_rfl
set_option maxRecDepth 100000 in
set_option maxHeartbeats 4000000 in
theorem Obj_sz (os : Os) (H : Type) (enc : TypeId × Value → H) : (OpenSpec.ofChange Rows.fnObjectKeyNotStringMessageSpec).bare.sizedB enc Tryz.prog Tryz.f4 false ((World.laidAll Tryz.prog os seatLaid0).forCall (fun _ _ => 0) ⟨#[], #[.int .u8 0, .bool false, .int .i64 0], []⟩).memory #[.int .u8 0, .bool false, .int .i64 0] 8 = true := by kernel_rfl
end Go.Proofs.YtfmjeacjfnlhiaaGreatFmt
