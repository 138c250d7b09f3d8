/- Closed facts of the row of FnEncodeObjectSortedSpec, and of the start at which it is shown to speak of something. Conditions: none. -/
import Derived.Test.YtdkccihoecpcaaaGreatFmtWit
import Derived.SevenTiedAt
import Derived.Test.YtdkccihoecpcaaaGreatFmtCards
namespace Go.Proofs.YtdkccihoecpcaaaGreatFmt
open Go
set_option maxRecDepth 100000 in
set_option maxHeartbeats 4000000 in
theorem EOS_wf : Rows.fnEncodeObjectSortedSpecRow.wfByText (OpenSpec.ofChange Rows.fnEncodeObjectSortedSpecSpec) = true := by kernel_rfl
set_option maxRecDepth 100000 in
set_option maxHeartbeats 4000000 in
theorem EOS_tie : namedTie Tryz.pinned.checked.prog Rows.fnEncodeObjectSortedSpecRow.namedList (OpenSpec.ofChange Rows.fnEncodeObjectSortedSpecSpec).vars = true := by kernel_rfl
set_option maxRecDepth 100000 in
set_option maxHeartbeats 4000000 in
theorem EOS_named : Tryz.pinned.checked.prog.funcNamed Rows.fnEncodeObjectSortedSpecRow.func = some 6 := by kernel_rfl
set_option maxRecDepth 100000 in
set_option maxHeartbeats 4000000 in
theorem EOS_read : (Tryz.f6.params.toList.all fun t => Tryz.pinned.checked.prog.readableRec t) = true := by kernel_rfl
set_option maxRecDepth 100000 in
set_option maxHeartbeats 4000000 in
theorem EOS_inp : Rows.fnEncodeObjectSortedSpecRow.inPlace = Tryz.pinned.checked.prog.inPlace 6 := by kernel_rfl
set_option maxRecDepth 100000 in
set_option maxHeartbeats 4000000 in
theorem EOS_unf : Rows.fnEncodeObjectSortedSpecRow.unfollowed = Tryz.pinned.checked.prog.unfollowed 6 := by kernel_rfl
set_option maxRecDepth 100000 in
set_option maxHeartbeats 4000000 in
theorem EOS_rec : Rows.fnEncodeObjectSortedSpecRow.recurses = Tryz.pinned.checked.prog.recurses 6 := by kernel_rfl
set_option maxRecDepth 100000 in
set_option maxHeartbeats 4000000 in
theorem EOS_vars : Rows.fnEncodeObjectSortedSpecRow.named = Tryz.pinned.checked.prog.varsNamed 6 := by kernel_rfl
set_option maxRecDepth 100000 in
set_option maxHeartbeats 4000000 in
theorem EOS_maps : Rows.fnEncodeObjectSortedSpecRow.maps = (Tryz.f6.params.toList ++ (OpenSpec.ofChange Rows.fnEncodeObjectSortedSpecSpec).bare.plain.varTypes Tryz.pinned.checked.prog).any (Tryz.pinned.checked.prog.mapsRec ·) := by kernel_rfl
set_option maxRecDepth 100000 in
set_option maxHeartbeats 4000000 in
theorem EOS_ifs : Rows.fnEncodeObjectSortedSpecRow.ifaces = (Tryz.f6.params.toList ++ (OpenSpec.ofChange Rows.fnEncodeObjectSortedSpecSpec).bare.plain.varTypes Tryz.pinned.checked.prog).any (Tryz.pinned.checked.prog.ifacesRec ·) := by kernel_rfl
set_option maxRecDepth 100000 in
set_option maxHeartbeats 4000000 in
theorem EOS_mo : Rows.fnEncodeObjectSortedSpecRow.mapsOut = Tryz.pinned.checked.prog.mapsAmong Tryz.f6.resultTypes.toList := by kernel_rfl
set_option maxRecDepth 100000 in
set_option maxHeartbeats 4000000 in
theorem EOS_lo : Rows.fnEncodeObjectSortedSpecRow.loops = (Tryz.f6.params.toList ++ (OpenSpec.ofChange Rows.fnEncodeObjectSortedSpecSpec).bare.plain.varTypes Tryz.pinned.checked.prog).any (Tryz.pinned.checked.prog.loopsFrom ·) := by kernel_rfl
set_option maxRecDepth 100000 in
set_option maxHeartbeats 4000000 in
theorem EOS_wk : Rows.fnEncodeObjectSortedSpecRow.wideKeys = (Tryz.f6.params.toList ++ (OpenSpec.ofChange Rows.fnEncodeObjectSortedSpecSpec).bare.plain.varTypes Tryz.pinned.checked.prog ++ Tryz.f6.resultTypes.toList).any (Tryz.pinned.checked.prog.wideKeysFrom ·) := by kernel_rfl
set_option maxRecDepth 100000 in
set_option maxHeartbeats 4000000 in
theorem EOS_vr : ((OpenSpec.ofChange Rows.fnEncodeObjectSortedSpecSpec).vars.all fun n => Tryz.pinned.checked.prog.varReadable n) = true := by kernel_rfl
set_option maxRecDepth 100000 in
set_option maxHeartbeats 4000000 in
theorem EOS_si : (Tryz.f6.params.toList.all fun t => !Tryz.pinned.checked.prog.wantsStandIn t) = true := by kernel_rfl
set_option maxRecDepth 100000 in
set_option maxHeartbeats 4000000 in
theorem EOS_goes : false = Rows.fnEncodeObjectSortedSpecRow.goesBy Tryz.pinned.checked.prog := by kernel_rfl
set_option maxRecDepth 100000 in
set_option maxHeartbeats 4000000 in
theorem EOS_m4 : (Tryz.f6.resultTypes.toList.all fun t => Tryz.pinned.checked.prog.readableRec t && decide (t < Tryz.pinned.checked.prog.types.size)) = true := by kernel_rfl
set_option maxRecDepth 100000 in
set_option maxHeartbeats 4000000 in
theorem EOS_m6 : Rows.fnEncodeObjectSortedSpecRow.ifacesOut = Tryz.f6.resultTypes.toList.any (Tryz.pinned.checked.prog.ifacesRec ·) := by kernel_rfl
set_option maxRecDepth 100000 in
set_option maxHeartbeats 4000000 in
theorem EOS_m7 : Rows.fnEncodeObjectSortedSpecRow.loopsOut = Tryz.f6.resultTypes.toList.any (Tryz.pinned.checked.prog.loopsFrom ·) := by kernel_rfl
set_option maxRecDepth 100000 in
set_option maxHeartbeats 4000000 in
theorem EOS_m8 : Rows.fnEncodeObjectSortedSpecRow.kinds = (if Rows.fnEncodeObjectSortedSpecRow.domain.isEmpty then [] else Tryz.f6.params.toList.map fun t => match Tryz.pinned.checked.prog.underlying t with | some (.int k) => some k | _ => none) := by kernel_rfl
set_option maxRecDepth 100000 in
set_option maxHeartbeats 4000000 in
theorem EOS_m9 : Rows.fnEncodeObjectSortedSpecRow.pinned = Rows.fnEncodeObjectSortedSpecRow.pinnedBy := by kernel_rfl
set_option maxRecDepth 100000 in
set_option maxHeartbeats 4000000 in
theorem EOS_m10 : Rows.fnEncodeObjectSortedSpecRow.plainKeys = Tryz.pinned.checked.prog.plainKeys := by kernel_rfl
set_option maxRecDepth 100000 in
set_option maxHeartbeats 4000000 in
theorem EOS_m11 : Rows.fnEncodeObjectSortedSpecRow.lifted = Tryz.pinned.checked.prog.liftsFinal := by kernel_rfl
set_option maxRecDepth 100000 in
set_option maxHeartbeats 4000000 in
theorem EOS_m12 : Tryz.pinned.checked.prog.make = some Rows.fnEncodeObjectSortedSpecRow.make := by kernel_rfl
set_option maxRecDepth 100000 in
set_option maxHeartbeats 4000000 in
theorem EOS_v1 : Rows.fnEncodeObjectSortedSpecRow.veiled = (Tryz.f6.params.toList ++ (OpenSpec.ofChange Rows.fnEncodeObjectSortedSpecSpec).bare.plain.varTypes Tryz.pinned.checked.prog ++ Tryz.f6.resultTypes.toList).any (Tryz.pinned.checked.prog.veiledRec ·) := by kernel_rfl
set_option maxRecDepth 100000 in
set_option maxHeartbeats 4000000 in
theorem EOS_v2 : Rows.fnEncodeObjectSortedSpecRow.veiledFits Tryz.pinned.checked.prog Tryz.f6.params.toList (Tryz.f6.params.toList ++ (OpenSpec.ofChange Rows.fnEncodeObjectSortedSpecSpec).bare.plain.varTypes Tryz.pinned.checked.prog ++ Tryz.f6.resultTypes.toList) = true := by kernel_rfl
set_option maxRecDepth 100000 in
set_option maxHeartbeats 4000000 in
theorem EOS_ok (os : Os) : Input.okWideB Tryz.prog ((World.laidAll Tryz.prog os seatLaid0).forCall (fun _ _ => 0) ⟨#[], #[.slice none 0 0], []⟩) 6 ⟨#[], #[.slice none 0 0], []⟩ = true := by kernel_rfl
set_option maxRecDepth 100000 in
set_option maxHeartbeats 4000000 in
theorem EOS_pre (os : Os) (H : Type) (enc : TypeId × Value → H) : (OpenSpec.ofChange Rows.fnEncodeObjectSortedSpecSpec).bare.preB enc Tryz.prog Tryz.f6 [] false ((World.laidAll Tryz.prog os seatLaid0).forCall (fun _ _ => 0) ⟨#[], #[.slice none 0 0], []⟩).memory #[.slice none 0 0] 8 = true := by kernel_rfl
set_option maxRecDepth 100000 in
set_option maxHeartbeats 4000000 in
theorem EOS_sz (os : Os) (H : Type) (enc : TypeId × Value → H) : (OpenSpec.ofChange Rows.fnEncodeObjectSortedSpecSpec).bare.sizedB enc Tryz.prog Tryz.f6 false ((World.laidAll Tryz.prog os seatLaid0).forCall (fun _ _ => 0) ⟨#[], #[.slice none 0 0], []⟩).memory #[.slice none 0 0] 8 = true := by kernel_rfl
end Go.Proofs.YtdkccihoecpcaaaGreatFmt
