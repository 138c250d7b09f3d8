/- For every string the call of the law returns true and leaves all that was there as it was. Conditions: none on the arguments; the package-level variables that the row lists hold what the program text lays in them; the cut stops at a formatting call that no run of this law comes to. -/
import Derived.Test.YtfmjeacjfnlhiaaGreatFmtRows
import Derived.Test.YtfmjeacjfnlhiaaGreatFmtU8
import Derived.Test.YtfmjeacjfnlhiaaGreatFmtCards
import Derived.Test.YtfmjeacjfnlhiaaGreatFmtTie
import Derived.Test.YtfmjeacjfnlhiaaGreatFmtPost
import Derived.Test.YtfmjeacjfnlhiaaGreatFmtCMSE
import Derived.Test.YtfmjeacjfnlhiaaGreatFmtSeatT
import Derived.Test.YtfmjeacjfnlhiaaGreatFmtLawM
import Derived.SevenTiedAt
import Derived.Laws.Cover2
namespace Go.Proofs.YtfmjeacjfnlhiaaGreatFmt
open Go.ChangeShapes Go.WideShapes Go.ChangeAt Go.RowKit Go.WideMaps Go.WideElems Go
open Go.ChangeMaps (open_string shut_string)
open Go.Stop
set_option maxRecDepth 100000 in
theorem MSE_lifted (os : Os) (started : os.Started) (H : Type) (enc : TypeId × Value → H) :
    ReturnsInTold none {} Tryz.checked os 12 .any Input.okWide ((OpenSpec.ofChange Rows.fnMarshalStringEscapesSpec).preRow enc Tryz.prog Tryz.f12 [] false seatLaid0) (fun F => ((OpenSpec.ofChange Rows.fnMarshalStringEscapesSpec).at F).post enc Tryz.prog Tryz.f12 false true false false) (aloneAtReturn Tryz.prog) nothingAlways := by
  refine returnsInTold_of_row (C := Tryz.checked) (s := (OpenSpec.ofChange Rows.fnMarshalStringEscapesSpec)) seat_enter own started (by kernel_rfl) Tryz.func12
    (witness_told (enc := enc) (C := Tryz.checked) (World.laidAll Tryz.prog os seatLaid0) #[.string ByteArray.empty] (World.laidAll_os _ _ _) (wit_shaped0 os _) (MSE_ok os)
      (OpenSpec.preRow_of_B rfl 8 (MSE_pre os H enc) (MSE_sz os H enc) (wit_laid0 os _))) ?_
  intro F W base args ds gs before _ hF hval0 hW _ _ hsz0 hL _
  have hval : ∀ (j : Nat) t v, Tryz.f12.params[j]? = some t → args[j]? = some v → Value.okWide Tryz.prog W .any base t v := hval0
  have hW' := hW
  obtain ⟨p, q, hA0, hV, rfl, _, _⟩ := hW'
  have hA : DataW.TrodAll enc Tryz.prog W 0 (fun _ => true) true Tryz.f12.params.toList args.toList ds p := hA0
  have hgl : gs.length = 5 := trodVars_length hV
  rw [Tryz.params12] at hA hval
  obtain ⟨argl⟩ := args
  have hA' : DataW.TrodAll enc Tryz.prog W 0 (fun _ => true) true [9] argl ds p := hA
  obtain ⟨v0, vs0, d0, ds0, p0, q0, rfl, rfl, rfl, h0, r0⟩ := trodAll_cons hA'
  obtain ⟨rfl, rfl, rfl⟩ := trodAll_nil r0
  obtain ⟨s, rfl, rfl, rfl, hs⟩ := open_string Tryz.underlying9 (hval 0 9 v0 rfl rfl) h0
  unfold maxLen at hs
  refine ((lawM s hs W (u8_of_laid hL (List.mem_of_getElem? (i := 12) (by kernel_rfl)) (List.mem_of_getElem? (i := 4) (by kernel_rfl))))).mono fun e W' hend => ?_
  obtain ⟨he, hbel⟩ := hend
  subst he
  refine ⟨_, rfl, law_post (s := Rows.fnMarshalStringEscapesSpec) laidOut hbel hW (by kernel_rfl) (by kernel_rfl) (by kernel_rfl) Tryz.underlying4 ?_⟩
  match gs, hgl with
  | [g1, g2, g3, g4, g5], _ => rfl
set_option maxRecDepth 100000 in
theorem MSE_holds : Rows.FnMarshalStringEscapesToldSaid :=
  Claim7.holds_of_told_tied_any_at .later 12 Tryz.f12 "fmt.Sprintf, its operands' methods called" [] [] (true, "fbab6ca1f85ab46ea9faf73590ddfdbe652fba307c9f7d29d3488c42dc2ee9a9") true false [.data, .data, .data, .data, .data, .data, .data, .data, .data, .data, .pinned, .pinned, .pinned] true
    MSE_wf rfl rfl rfl laidOut seat_mapsRowed rfl ⟨rfl, rfl, rfl, rfl, rfl, rfl, rfl⟩ rfl rfl MSE_tie MSE_named Tryz.func12 MSE_read
    (of_decide_eq_true (by kernel_rfl)) (by unfold Func.isWrapper; rw [if_neg (of_decide_eq_false (by kernel_rfl))]; exact ⟨rfl, rfl⟩)
    seat_stops.symm rfl seat_knobs.symm seat_env MSE_inp MSE_unf MSE_rec MSE_vars MSE_maps MSE_ifs MSE_mo MSE_lo MSE_wk rfl MSE_vr rfl rfl rfl rfl rfl seat_main seat_looks MSE_si (by decide) MSE_goes fnMarshalStringEscapes_row_tie
    (OpenClaim.moreEntering_of seat_enter MSE_m4 seat_heard MSE_m6 MSE_m7 MSE_m8 MSE_m9 MSE_m10 MSE_m11 MSE_m12)
    ⟨_, WideRow.started_initial, seat_quiet _⟩
    (fun os started _ H enc _ => MSE_lifted os started H enc) ⟨MSE_v1, MSE_v2⟩
#print axioms MSE_holds
end Go.Proofs.YtfmjeacjfnlhiaaGreatFmt
