/- Closed facts of the row of FnObjectKeyNotStringSeparates, and of the start at which it is shown to speak of something. Conditions: none. -/
import Derived.Test.YtfmjeacjfnlhiaaGreatFmtWit
import Derived.SevenTiedAt
import Derived.Test.YtfmjeacjfnlhiaaGreatFmtCards
namespace Go.Proofs.YtfmjeacjfnlhiaaGreatFmt
open Go
set_option maxRecDepth 100000 in
set_option maxHeartbeats 4000000 in
theorem Sep_wf : Rows.fnObjectKeyNotStringSeparatesRow.wfByText (OpenSpec.ofChange Rows.fnObjectKeyNotStringSeparatesSpec) = true := by kernel_rfl
set_option maxRecDepth 100000 in
set_option maxHeartbeats 4000000 in
theorem Sep_tie : namedTie Tryz.pinned.checked.prog Rows.fnObjectKeyNotStringSeparatesRow.namedList (OpenSpec.ofChange Rows.fnObjectKeyNotStringSeparatesSpec).vars = true := by kernel_rfl
set_option maxRecDepth 100000 in
set_option maxHeartbeats 4000000 in
theorem Sep_named : Tryz.pinned.checked.prog.funcNamed Rows.fnObjectKeyNotStringSeparatesRow.func = some 6 := by kernel_rfl
set_option maxRecDepth 100000 in
set_option maxHeartbeats 4000000 in
theorem Sep_read : (Tryz.f6.params.toList.all fun t => Tryz.pinned.checked.prog.readableRec t) = true := by kernel_rfl
set_option maxRecDepth 100000 in
set_option maxHeartbeats 4000000 in
theorem Sep_inp : Rows.fnObjectKeyNotStringSeparatesRow.inPlace = Tryz.pinned.checked.prog.inPlace 6 := by kernel_rfl
set_option maxRecDepth 100000 in
set_option maxHeartbeats 4000000 in
theorem Sep_unf : Rows.fnObjectKeyNotStringSeparatesRow.unfollowed = Tryz.pinned.checked.prog.unfollowed 6 := by kernel_rfl
set_option maxRecDepth 100000 in
set_option maxHeartbeats 4000000 in
theorem Sep_rec : Rows.fnObjectKeyNotStringSeparatesRow.recurses = Tryz.pinned.checked.prog.recurses 6 := by kernel_rfl
set_option maxRecDepth 100000 in
set_option maxHeartbeats 4000000 in
theorem Sep_vars : Rows.fnObjectKeyNotStringSeparatesRow.named = Tryz.pinned.checked.prog.varsNamed 6 := by kernel_rfl
set_option maxRecDepth 100000 in
set_option maxHeartbeats 4000000 in
theorem Sep_maps : Rows.fnObjectKeyNotStringSeparatesRow.maps = (Tryz.f6.params.toList ++ (OpenSpec.ofChange Rows.fnObjectKeyNotStringSeparatesSpec).bare.plain.varTypes Tryz.pinned.checked.prog).any (Tryz.pinned.checked.prog.mapsRec ·) := by kernel_rfl
set_option maxRecDepth 100000 in
set_option maxHeartbeats 4000000 in
theorem Sep_ifs : Rows.fnObjectKeyNotStringSeparatesRow.ifaces = (Tryz.f6.params.toList ++ (OpenSpec.ofChange Rows.fnObjectKeyNotStringSeparatesSpec).bare.plain.varTypes Tryz.pinned.checked.prog).any (Tryz.pinned.checked.prog.ifacesRec ·) := by kernel_rfl
set_option maxRecDepth 100000 in
set_option maxHeartbeats 4000000 in
theorem Sep_mo : Rows.fnObjectKeyNotStringSeparatesRow.mapsOut = Tryz.pinned.checked.prog.mapsAmong Tryz.f6.resultTypes.toList := by kernel_rfl
set_option maxRecDepth 100000 in
set_option maxHeartbeats 4000000 in
theorem Sep_lo : Rows.fnObjectKeyNotStringSeparatesRow.loops = (Tryz.f6.params.toList ++ (OpenSpec.ofChange Rows.fnObjectKeyNotStringSeparatesSpec).bare.plain.varTypes Tryz.pinned.checked.prog).any (Tryz.pinned.checked.prog.loopsFrom ·) := by kernel_rfl
set_option maxRecDepth 100000 in
set_option maxHeartbeats 4000000 in
theorem Sep_wk : Rows.fnObjectKeyNotStringSeparatesRow.wideKeys = (Tryz.f6.params.toList ++ (OpenSpec.ofChange Rows.fnObjectKeyNotStringSeparatesSpec).bare.plain.varTypes Tryz.pinned.checked.prog ++ Tryz.f6.resultTypes.toList).any (Tryz.pinned.checked.prog.wideKeysFrom ·) := by kernel_rfl
set_option maxRecDepth 100000 in
set_option maxHeartbeats 4000000 in
theorem Sep_vr : ((OpenSpec.ofChange Rows.fnObjectKeyNotStringSeparatesSpec).vars.all fun n => Tryz.pinned.checked.prog.varReadable n) = true := by kernel_rfl
set_option maxRecDepth 100000 in
set_option maxHeartbeats 4000000 in
theorem Sep_si : (Tryz.f6.params.toList.all fun t => !Tryz.pinned.checked.prog.wantsStandIn t) = true := by kernel_rfl
set_option maxRecDepth 100000 in
set_option maxHeartbeats 4000000 in
theorem Sep_goes : false = Rows.fnObjectKeyNotStringSeparatesRow.goesBy Tryz.pinned.checked.prog := by kernel_rfl
set_option maxRecDepth 100000 in
set_option maxHeartbeats 4000000 in
theorem Sep_m4 : (Tryz.f6.resultTypes.toList.all fun t => Tryz.pinned.checked.prog.readableRec t && decide (t < Tryz.pinned.checked.prog.types.size)) = true := by kernel_rfl
set_option maxRecDepth 100000 in
set_option maxHeartbeats 4000000 in
theorem Sep_m6 : Rows.fnObjectKeyNotStringSeparatesRow.ifacesOut = Tryz.f6.resultTypes.toList.any (Tryz.pinned.checked.prog.ifacesRec ·) := by kernel_rfl
set_option maxRecDepth 100000 in
set_option maxHeartbeats 4000000 in
theorem Sep_m7 : Rows.fnObjectKeyNotStringSeparatesRow.loopsOut = Tryz.f6.resultTypes.toList.any (Tryz.pinned.checked.prog.loopsFrom ·) := by kernel_rfl
set_option maxRecDepth 100000 in
set_option maxHeartbeats 4000000 in
theorem Sep_m8 : Rows.fnObjectKeyNotStringSeparatesRow.kinds = (if Rows.fnObjectKeyNotStringSeparatesRow.domain.isEmpty then [] else Tryz.f6.params.toList.map fun t => match Tryz.pinned.checked.prog.underlying t with | some (.int k) => some k | _ => none) := by kernel_rfl
set_option maxRecDepth 100000 in
set_option maxHeartbeats 4000000 in
theorem Sep_m9 : Rows.fnObjectKeyNotStringSeparatesRow.pinned = Rows.fnObjectKeyNotStringSeparatesRow.pinnedBy := by kernel_rfl
set_option maxRecDepth 100000 in
set_option maxHeartbeats 4000000 in
theorem Sep_m10 : Rows.fnObjectKeyNotStringSeparatesRow.plainKeys = Tryz.pinned.checked.prog.plainKeys := by kernel_rfl
set_option maxRecDepth 100000 in
set_option maxHeartbeats 4000000 in
theorem Sep_m11 : Rows.fnObjectKeyNotStringSeparatesRow.lifted = Tryz.pinned.checked.prog.liftsFinal := by kernel_rfl
set_option maxRecDepth 100000 in
set_option maxHeartbeats 4000000 in
theorem Sep_m12 : Tryz.pinned.checked.prog.make = some Rows.fnObjectKeyNotStringSeparatesRow.make := by kernel_rfl
set_option maxRecDepth 100000 in
set_option maxHeartbeats 4000000 in
theorem Sep_v1 : Rows.fnObjectKeyNotStringSeparatesRow.veiled = (Tryz.f6.params.toList ++ (OpenSpec.ofChange Rows.fnObjectKeyNotStringSeparatesSpec).bare.plain.varTypes Tryz.pinned.checked.prog ++ Tryz.f6.resultTypes.toList).any (Tryz.pinned.checked.prog.veiledRec ·) := by kernel_rfl
set_option maxRecDepth 100000 in
set_option maxHeartbeats 4000000 in
theorem Sep_v2 : Rows.fnObjectKeyNotStringSeparatesRow.veiledFits Tryz.pinned.checked.prog Tryz.f6.params.toList (Tryz.f6.params.toList ++ (OpenSpec.ofChange Rows.fnObjectKeyNotStringSeparatesSpec).bare.plain.varTypes Tryz.pinned.checked.prog ++ Tryz.f6.resultTypes.toList) = true := by kernel_rfl
set_option maxRecDepth 100000 in
set_option maxHeartbeats 4000000 in
theorem Sep_ok (os : Os) : Input.okWideB Tryz.prog ((World.laidAll Tryz.prog os seatLaid0).forCall (fun _ _ => 0) ⟨#[], #[.int .i64 0, .int .i64 0, .bool false], []⟩) 6 ⟨#[], #[.int .i64 0, .int .i64 0, .bool false], []⟩ = true := by kernel_rfl
set_option maxRecDepth 100000 in
set_option maxHeartbeats 4000000 in
theorem Sep_pre (os : Os) (H : Type) (enc : TypeId × Value → H) : (OpenSpec.ofChange Rows.fnObjectKeyNotStringSeparatesSpec).bare.preB enc Tryz.prog Tryz.f6 [] false ((World.laidAll Tryz.prog os seatLaid0).forCall (fun _ _ => 0) ⟨#[], #[.int .i64 0, .int .i64 0, .bool false], []⟩).memory #[.int .i64 0, .int .i64 0, .bool false] 8 = true := by kernel_rfl
set_option maxRecDepth 100000 in
set_option maxHeartbeats 4000000 in
theorem Sep_sz (os : Os) (H : Type) (enc : TypeId × Value → H) : (OpenSpec.ofChange Rows.fnObjectKeyNotStringSeparatesSpec).bare.sizedB enc Tryz.prog Tryz.f6 false ((World.laidAll Tryz.prog os seatLaid0).forCall (fun _ _ => 0) ⟨#[], #[.int .i64 0, .int .i64 0, .bool false], []⟩).memory #[.int .i64 0, .int .i64 0, .bool false] 8 = true := by kernel_rfl
end Go.Proofs.YtfmjeacjfnlhiaaGreatFmt
