/- For every string and every float the call of the law returns true and leaves all that was there as it was. Conditions: none on the arguments; the package-level variables that the row lists hold what the program text lays in them; the cut stops at a formatting call that no run of this law comes to. -/
import Derived.Test.YtdkccihoecpcaaaGreatFmtRows
import Derived.Test.YtdkccihoecpcaaaGreatFmtTab
import Derived.Test.YtdkccihoecpcaaaGreatFmtU8
import Derived.Test.YtdkccihoecpcaaaGreatFmtP10
import Derived.Test.YtdkccihoecpcaaaGreatFmtCards
import Derived.Test.YtdkccihoecpcaaaGreatFmtTie
import Derived.Test.YtdkccihoecpcaaaGreatFmtPost
import Derived.Test.YtdkccihoecpcaaaGreatFmtCRepB
import Derived.Test.YtdkccihoecpcaaaGreatFmtSeatT
import Derived.Test.YtdkccihoecpcaaaGreatFmtLawRep
import Derived.SevenTiedAt
import Derived.Laws.Cover2
namespace Go.Proofs.YtdkccihoecpcaaaGreatFmt
open Go.ChangeShapes Go.WideShapes Go.ChangeAt Go.RowKit Go.WideMaps Go.WideElems Go
open Go.ChangeMaps (open_string shut_string)
open Go.Stop
set_option maxRecDepth 100000 in
theorem RepB_lifted (os : Os) (started : os.Started) (H : Type) (enc : TypeId × Value → H) :
    ReturnsInTold none {} Tryz.checked os 3 .any Input.okWide ((OpenSpec.ofChange Rows.fnRepeatStringTooLargeBoundedSpec).preRow enc Tryz.prog Tryz.f3 [] false seatLaid0) (fun F => ((OpenSpec.ofChange Rows.fnRepeatStringTooLargeBoundedSpec).at F).post enc Tryz.prog Tryz.f3 false true false false) (aloneAtReturn Tryz.prog) nothingAlways := by
  refine returnsInTold_of_row (C := Tryz.checked) (s := (OpenSpec.ofChange Rows.fnRepeatStringTooLargeBoundedSpec)) seat_enter own started (by kernel_rfl) Tryz.func3
    (witness_told (enc := enc) (C := Tryz.checked) (World.laidAll Tryz.prog os seatLaid0) #[.string ByteArray.empty, .float .f64 0] (World.laidAll_os _ _ _) (wit_shaped0 os _) (RepB_ok os)
      (OpenSpec.preRow_of_B rfl 8 (RepB_pre os H enc) (RepB_sz os H enc) (wit_laid0 os _))) ?_
  intro F W base args ds gs before _ hF hval0 hW _ _ hsz0 hL _
  have hval : ∀ (j : Nat) t v, Tryz.f3.params[j]? = some t → args[j]? = some v → Value.okWide Tryz.prog W .any base t v := hval0
  have hW' := hW
  obtain ⟨p, q, hA0, hV, rfl, _, _⟩ := hW'
  have hA : DataW.TrodAll enc Tryz.prog W 0 (fun _ => true) true Tryz.f3.params.toList args.toList ds p := hA0
  have hgl : gs.length = 5 := trodVars_length hV
  rw [Tryz.params3] at hA hval
  obtain ⟨argl⟩ := args
  have hA' : DataW.TrodAll enc Tryz.prog W 0 (fun _ => true) true [9, 22] argl ds p := hA
  obtain ⟨v0, vs0, d0, ds0, p0, q0, rfl, rfl, rfl, h0, r0⟩ := trodAll_cons hA'
  obtain ⟨v1, vs1, d1, ds1, p1, q1, rfl, rfl, rfl, h1, r1⟩ := trodAll_cons r0
  obtain ⟨rfl, rfl, rfl⟩ := trodAll_nil r1
  obtain ⟨s, rfl, rfl, rfl, hs⟩ := open_string Tryz.underlying9 (hval 0 9 v0 rfl rfl) h0
  unfold maxLen at hs
  obtain ⟨n, rfl, rfl, rfl, hn⟩ := open_float Tryz.underlying22 (hval 1 22 v1 rfl rfl) h1
  refine ((lawRepB s hs n (float_lt hn) W (p10_of_laid hL (List.mem_of_getElem? (i := 11) (by kernel_rfl))) (tab_of_laid hL (List.mem_of_getElem? (i := 3) (by kernel_rfl))) (u8_of_laid hL (List.mem_of_getElem? (i := 12) (by kernel_rfl)) (List.mem_of_getElem? (i := 4) (by kernel_rfl))))).mono fun e W' hend => ?_
  obtain ⟨he, hbel⟩ := hend
  subst he
  refine ⟨_, rfl, law_post (s := Rows.fnRepeatStringTooLargeBoundedSpec) laidOut hbel hW (by kernel_rfl) (by kernel_rfl) (by kernel_rfl) Tryz.underlying4 ?_⟩
  match gs, hgl with
  | [g1, g2, g3, g4, g5], _ => rfl
set_option maxRecDepth 100000 in
theorem RepB_holds : Rows.FnRepeatStringTooLargeBoundedToldSaid :=
  Claim7.holds_of_told_tied_any_at .later 3 Tryz.f3 "fmt.Sprintf, its operands' methods called" [] [] (true, "23ed704817c54e9fbe6c5ffa07d4a23ae5669c340dfaba732f06bfd8960f2176") true false [.data, .data, .data, .data, .data, .data, .data, .data, .data, .data, .pinned, .pinned, .pinned] true
    RepB_wf rfl rfl rfl laidOut seat_mapsRowed rfl ⟨rfl, rfl, rfl, rfl, rfl, rfl, rfl⟩ rfl rfl RepB_tie RepB_named Tryz.func3 RepB_read
    (of_decide_eq_true (by kernel_rfl)) (by unfold Func.isWrapper; rw [if_neg (of_decide_eq_false (by kernel_rfl))]; exact ⟨rfl, rfl⟩)
    seat_stops.symm rfl seat_knobs.symm seat_env RepB_inp RepB_unf RepB_rec RepB_vars RepB_maps RepB_ifs RepB_mo RepB_lo RepB_wk rfl RepB_vr rfl rfl rfl rfl rfl seat_main seat_looks RepB_si (by decide) RepB_goes fnRepeatStringTooLargeBounded_row_tie
    (OpenClaim.moreEntering_of seat_enter RepB_m4 seat_heard RepB_m6 RepB_m7 RepB_m8 RepB_m9 RepB_m10 RepB_m11 RepB_m12)
    ⟨_, WideRow.started_initial, seat_quiet _⟩
    (fun os started _ H enc _ => RepB_lifted os started H enc) ⟨RepB_v1, RepB_v2⟩
#print axioms RepB_holds
end Go.Proofs.YtdkccihoecpcaaaGreatFmt
