/- Closed facts of the row of FnBase64Exact, and of the start at which it is shown to speak of something. Conditions: none. -/
import Derived.Test.YtlhndkonhjjcgaaGreatFmtWit
import Derived.SevenTiedAt
import Derived.Test.YtlhndkonhjjcgaaGreatFmtCards
namespace Go.Proofs.YtlhndkonhjjcgaaGreatFmt
open Go
set_option maxRecDepth 100000 in
set_option maxHeartbeats 4000000 in
theorem B64_wf : Rows.fnBase64ExactRow.wfByText (OpenSpec.ofChange Rows.fnBase64ExactSpec) = true := by kernel_rfl
set_option maxRecDepth 100000 in
set_option maxHeartbeats 4000000 in
theorem B64_tie : namedTie Tryz.pinned.checked.prog Rows.fnBase64ExactRow.namedList (OpenSpec.ofChange Rows.fnBase64ExactSpec).vars = true := by kernel_rfl
set_option maxRecDepth 100000 in
set_option maxHeartbeats 4000000 in
theorem B64_named : Tryz.pinned.checked.prog.funcNamed Rows.fnBase64ExactRow.func = some 6 := by kernel_rfl
set_option maxRecDepth 100000 in
set_option maxHeartbeats 4000000 in
theorem B64_read : (Tryz.f6.params.toList.all fun t => Tryz.pinned.checked.prog.readableRec t) = true := by kernel_rfl
set_option maxRecDepth 100000 in
set_option maxHeartbeats 4000000 in
theorem B64_inp : Rows.fnBase64ExactRow.inPlace = Tryz.pinned.checked.prog.inPlace 6 := by kernel_rfl
set_option maxRecDepth 100000 in
set_option maxHeartbeats 4000000 in
theorem B64_unf : Rows.fnBase64ExactRow.unfollowed = Tryz.pinned.checked.prog.unfollowed 6 := by kernel_rfl
set_option maxRecDepth 100000 in
set_option maxHeartbeats 4000000 in
theorem B64_rec : Rows.fnBase64ExactRow.recurses = Tryz.pinned.checked.prog.recurses 6 := by kernel_rfl
set_option maxRecDepth 100000 in
set_option maxHeartbeats 4000000 in
theorem B64_vars : Rows.fnBase64ExactRow.named = Tryz.pinned.checked.prog.varsNamed 6 := by kernel_rfl
set_option maxRecDepth 100000 in
set_option maxHeartbeats 4000000 in
theorem B64_maps : Rows.fnBase64ExactRow.maps = (Tryz.f6.params.toList ++ (OpenSpec.ofChange Rows.fnBase64ExactSpec).bare.plain.varTypes Tryz.pinned.checked.prog).any (Tryz.pinned.checked.prog.mapsRec ·) := by kernel_rfl
set_option maxRecDepth 100000 in
set_option maxHeartbeats 4000000 in
theorem B64_ifs : Rows.fnBase64ExactRow.ifaces = (Tryz.f6.params.toList ++ (OpenSpec.ofChange Rows.fnBase64ExactSpec).bare.plain.varTypes Tryz.pinned.checked.prog).any (Tryz.pinned.checked.prog.ifacesRec ·) := by kernel_rfl
set_option maxRecDepth 100000 in
set_option maxHeartbeats 4000000 in
theorem B64_mo : Rows.fnBase64ExactRow.mapsOut = Tryz.pinned.checked.prog.mapsAmong Tryz.f6.resultTypes.toList := by kernel_rfl
set_option maxRecDepth 100000 in
set_option maxHeartbeats 4000000 in
theorem B64_lo : Rows.fnBase64ExactRow.loops = (Tryz.f6.params.toList ++ (OpenSpec.ofChange Rows.fnBase64ExactSpec).bare.plain.varTypes Tryz.pinned.checked.prog).any (Tryz.pinned.checked.prog.loopsFrom ·) := by kernel_rfl
set_option maxRecDepth 100000 in
set_option maxHeartbeats 4000000 in
theorem B64_wk : Rows.fnBase64ExactRow.wideKeys = (Tryz.f6.params.toList ++ (OpenSpec.ofChange Rows.fnBase64ExactSpec).bare.plain.varTypes Tryz.pinned.checked.prog ++ Tryz.f6.resultTypes.toList).any (Tryz.pinned.checked.prog.wideKeysFrom ·) := by kernel_rfl
set_option maxRecDepth 100000 in
set_option maxHeartbeats 4000000 in
theorem B64_vr : ((OpenSpec.ofChange Rows.fnBase64ExactSpec).vars.all fun n => Tryz.pinned.checked.prog.varReadable n) = true := by kernel_rfl
set_option maxRecDepth 100000 in
set_option maxHeartbeats 4000000 in
theorem B64_si : (Tryz.f6.params.toList.all fun t => !Tryz.pinned.checked.prog.wantsStandIn t) = true := by kernel_rfl
set_option maxRecDepth 100000 in
set_option maxHeartbeats 4000000 in
theorem B64_goes : false = Rows.fnBase64ExactRow.goesBy Tryz.pinned.checked.prog := by kernel_rfl
set_option maxRecDepth 100000 in
set_option maxHeartbeats 4000000 in
theorem B64_m4 : (Tryz.f6.resultTypes.toList.all fun t => Tryz.pinned.checked.prog.readableRec t && decide (t < Tryz.pinned.checked.prog.types.size)) = true := by kernel_rfl
set_option maxRecDepth 100000 in
set_option maxHeartbeats 4000000 in
theorem B64_m6 : Rows.fnBase64ExactRow.ifacesOut = Tryz.f6.resultTypes.toList.any (Tryz.pinned.checked.prog.ifacesRec ·) := by kernel_rfl
set_option maxRecDepth 100000 in
set_option maxHeartbeats 4000000 in
theorem B64_m7 : Rows.fnBase64ExactRow.loopsOut = Tryz.f6.resultTypes.toList.any (Tryz.pinned.checked.prog.loopsFrom ·) := by kernel_rfl
set_option maxRecDepth 100000 in
set_option maxHeartbeats 4000000 in
theorem B64_m8 : Rows.fnBase64ExactRow.kinds = (if Rows.fnBase64ExactRow.domain.isEmpty then [] else Tryz.f6.params.toList.map fun t => match Tryz.pinned.checked.prog.underlying t with | some (.int k) => some k | _ => none) := by kernel_rfl
set_option maxRecDepth 100000 in
set_option maxHeartbeats 4000000 in
theorem B64_m9 : Rows.fnBase64ExactRow.pinned = Rows.fnBase64ExactRow.pinnedBy := by kernel_rfl
set_option maxRecDepth 100000 in
set_option maxHeartbeats 4000000 in
theorem B64_m10 : Rows.fnBase64ExactRow.plainKeys = Tryz.pinned.checked.prog.plainKeys := by kernel_rfl
set_option maxRecDepth 100000 in
set_option maxHeartbeats 4000000 in
theorem B64_m11 : Rows.fnBase64ExactRow.lifted = Tryz.pinned.checked.prog.liftsFinal := by kernel_rfl
set_option maxRecDepth 100000 in
set_option maxHeartbeats 4000000 in
theorem B64_m12 : Tryz.pinned.checked.prog.make = some Rows.fnBase64ExactRow.make := by kernel_rfl
set_option maxRecDepth 100000 in
set_option maxHeartbeats 4000000 in
theorem B64_v1 : Rows.fnBase64ExactRow.veiled = (Tryz.f6.params.toList ++ (OpenSpec.ofChange Rows.fnBase64ExactSpec).bare.plain.varTypes Tryz.pinned.checked.prog ++ Tryz.f6.resultTypes.toList).any (Tryz.pinned.checked.prog.veiledRec ·) := by kernel_rfl
set_option maxRecDepth 100000 in
set_option maxHeartbeats 4000000 in
theorem B64_v2 : Rows.fnBase64ExactRow.veiledFits Tryz.pinned.checked.prog Tryz.f6.params.toList (Tryz.f6.params.toList ++ (OpenSpec.ofChange Rows.fnBase64ExactSpec).bare.plain.varTypes Tryz.pinned.checked.prog ++ Tryz.f6.resultTypes.toList) = true := by kernel_rfl
set_option maxRecDepth 100000 in
set_option maxHeartbeats 4000000 in
theorem B64_ok (os : Os) : Input.okWideB Tryz.prog ((World.laidAll Tryz.prog os seatLaid0).forCall (fun _ _ => 0) ⟨#[], #[.string ByteArray.empty], []⟩) 6 ⟨#[], #[.string ByteArray.empty], []⟩ = true := by kernel_rfl
set_option maxRecDepth 100000 in
set_option maxHeartbeats 4000000 in
theorem B64_pre (os : Os) (H : Type) (enc : TypeId × Value → H) : (OpenSpec.ofChange Rows.fnBase64ExactSpec).bare.preB enc Tryz.prog Tryz.f6 [] false ((World.laidAll Tryz.prog os seatLaid0).forCall (fun _ _ => 0) ⟨#[], #[.string ByteArray.empty], []⟩).memory #[.string ByteArray.empty] 8 = true := by kernel_rfl
set_option maxRecDepth 100000 in
set_option maxHeartbeats 4000000 in
theorem B64_sz (os : Os) (H : Type) (enc : TypeId × Value → H) : (OpenSpec.ofChange Rows.fnBase64ExactSpec).bare.sizedB enc Tryz.prog Tryz.f6 false ((World.laidAll Tryz.prog os seatLaid0).forCall (fun _ _ => 0) ⟨#[], #[.string ByteArray.empty], []⟩).memory #[.string ByteArray.empty] 8 = true := by kernel_rfl
end Go.Proofs.YtlhndkonhjjcgaaGreatFmt
