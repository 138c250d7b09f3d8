/- For every string and every float the call of the law returns true and leaves all that was there as it was. Conditions: none on the arguments; the package-level variables that the row lists hold what the program text lays in them; the cut stops at a formatting call that no run of this law comes to. -/
import Derived.Test.YtdkccihoecpcaaaGreatFmtRows
import Derived.Test.YtdkccihoecpcaaaGreatFmtTab
import Derived.Test.YtdkccihoecpcaaaGreatFmtU8
import Derived.Test.YtdkccihoecpcaaaGreatFmtP10
import Derived.Test.YtdkccihoecpcaaaGreatFmtCards
import Derived.Test.YtdkccihoecpcaaaGreatFmtTie
import Derived.Test.YtdkccihoecpcaaaGreatFmtPost
import Derived.Test.YtdkccihoecpcaaaGreatFmtCRepM
import Derived.Test.YtdkccihoecpcaaaGreatFmtSeatT
import Derived.Test.YtdkccihoecpcaaaGreatFmtLawRep
import Derived.SevenTiedAt
import Derived.Laws.Cover2
namespace Go.Proofs.YtdkccihoecpcaaaGreatFmt
open Go.ChangeShapes Go.WideShapes Go.ChangeAt Go.RowKit Go.WideMaps Go.WideElems Go
open Go.ChangeMaps (open_string shut_string)
open Go.Stop
set_option maxRecDepth 100000 in
theorem RepM_lifted (os : Os) (started : os.Started) (H : Type) (enc : TypeId × Value → H) :
    ReturnsInTold none {} Tryz.checked os 4 .any Input.okWide ((OpenSpec.ofChange Rows.fnRepeatStringTooLargeMessageSpec).preRow enc Tryz.prog Tryz.f4 [] false seatLaid0) (fun F => ((OpenSpec.ofChange Rows.fnRepeatStringTooLargeMessageSpec).at F).post enc Tryz.prog Tryz.f4 false true false false) (aloneAtReturn Tryz.prog) nothingAlways := by
  refine returnsInTold_of_row (C := Tryz.checked) (s := (OpenSpec.ofChange Rows.fnRepeatStringTooLargeMessageSpec)) seat_enter own started (by kernel_rfl) Tryz.func4
    (witness_told (enc := enc) (C := Tryz.checked) (World.laidAll Tryz.prog os seatLaid0) #[.string ByteArray.empty, .float .f64 0] (World.laidAll_os _ _ _) (wit_shaped0 os _) (RepM_ok os)
      (OpenSpec.preRow_of_B rfl 8 (RepM_pre os H enc) (RepM_sz os H enc) (wit_laid0 os _))) ?_
  intro F W base args ds gs before _ hF hval0 hW _ _ hsz0 hL _
  have hval : ∀ (j : Nat) t v, Tryz.f4.params[j]? = some t → args[j]? = some v → Value.okWide Tryz.prog W .any base t v := hval0
  have hW' := hW
  obtain ⟨p, q, hA0, hV, rfl, _, _⟩ := hW'
  have hA : DataW.TrodAll enc Tryz.prog W 0 (fun _ => true) true Tryz.f4.params.toList args.toList ds p := hA0
  have hgl : gs.length = 5 := trodVars_length hV
  rw [Tryz.params4] at hA hval
  obtain ⟨argl⟩ := args
  have hA' : DataW.TrodAll enc Tryz.prog W 0 (fun _ => true) true [9, 22] argl ds p := hA
  obtain ⟨v0, vs0, d0, ds0, p0, q0, rfl, rfl, rfl, h0, r0⟩ := trodAll_cons hA'
  obtain ⟨v1, vs1, d1, ds1, p1, q1, rfl, rfl, rfl, h1, r1⟩ := trodAll_cons r0
  obtain ⟨rfl, rfl, rfl⟩ := trodAll_nil r1
  obtain ⟨s, rfl, rfl, rfl, hs⟩ := open_string Tryz.underlying9 (hval 0 9 v0 rfl rfl) h0
  unfold maxLen at hs
  obtain ⟨n, rfl, rfl, rfl, hn⟩ := open_float Tryz.underlying22 (hval 1 22 v1 rfl rfl) h1
  refine ((lawRepM s hs n (float_lt hn) W (p10_of_laid hL (List.mem_of_getElem? (i := 11) (by kernel_rfl))) (tab_of_laid hL (List.mem_of_getElem? (i := 3) (by kernel_rfl))) (u8_of_laid hL (List.mem_of_getElem? (i := 12) (by kernel_rfl)) (List.mem_of_getElem? (i := 4) (by kernel_rfl))))).mono fun e W' hend => ?_
  obtain ⟨he, hbel⟩ := hend
  subst he
  refine ⟨_, rfl, law_post (s := Rows.fnRepeatStringTooLargeMessageSpec) laidOut hbel hW (by kernel_rfl) (by kernel_rfl) (by kernel_rfl) Tryz.underlying4 ?_⟩
  match gs, hgl with
  | [g1, g2, g3, g4, g5], _ => rfl
set_option maxRecDepth 100000 in
theorem RepM_holds : Rows.FnRepeatStringTooLargeMessageToldSaid :=
  Claim7.holds_of_told_tied_any_at .later 4 Tryz.f4 "fmt.Sprintf, its operands' methods called" [] [] (true, "23ed704817c54e9fbe6c5ffa07d4a23ae5669c340dfaba732f06bfd8960f2176") true false [.data, .data, .data, .data, .data, .data, .data, .data, .data, .data, .pinned, .pinned, .pinned] true
    RepM_wf rfl rfl rfl laidOut seat_mapsRowed rfl ⟨rfl, rfl, rfl, rfl, rfl, rfl, rfl⟩ rfl rfl RepM_tie RepM_named Tryz.func4 RepM_read
    (of_decide_eq_true (by kernel_rfl)) (by unfold Func.isWrapper; rw [if_neg (of_decide_eq_false (by kernel_rfl))]; exact ⟨rfl, rfl⟩)
    seat_stops.symm rfl seat_knobs.symm seat_env RepM_inp RepM_unf RepM_rec RepM_vars RepM_maps RepM_ifs RepM_mo RepM_lo RepM_wk rfl RepM_vr rfl rfl rfl rfl rfl seat_main seat_looks RepM_si (by decide) RepM_goes fnRepeatStringTooLargeMessage_row_tie
    (OpenClaim.moreEntering_of seat_enter RepM_m4 seat_heard RepM_m6 RepM_m7 RepM_m8 RepM_m9 RepM_m10 RepM_m11 RepM_m12)
    ⟨_, WideRow.started_initial, seat_quiet _⟩
    (fun os started _ H enc _ => RepM_lifted os started H enc) ⟨RepM_v1, RepM_v2⟩
#print axioms RepM_holds
end Go.Proofs.YtdkccihoecpcaaaGreatFmt
