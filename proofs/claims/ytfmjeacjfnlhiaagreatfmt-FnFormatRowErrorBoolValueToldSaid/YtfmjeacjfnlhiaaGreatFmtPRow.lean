/- For every string and every bool the call of the law returns true and leaves all that was there as it was. Conditions: none on the arguments; the package-level variables that the row lists hold what the program text lays in them; the cut stops at a formatting call that no run of this law comes to. -/
import Derived.Test.YtfmjeacjfnlhiaaGreatFmtRows
import Derived.Test.YtfmjeacjfnlhiaaGreatFmtCards
import Derived.Test.YtfmjeacjfnlhiaaGreatFmtTie
import Derived.Test.YtfmjeacjfnlhiaaGreatFmtPost
import Derived.Test.YtfmjeacjfnlhiaaGreatFmtCRow
import Derived.Test.YtfmjeacjfnlhiaaGreatFmtSeatT
import Derived.Test.YtfmjeacjfnlhiaaGreatFmtRowLaw
import Derived.SevenTiedAt
import Derived.Laws.Cover2
namespace Go.Proofs.YtfmjeacjfnlhiaaGreatFmt
open Go.ChangeShapes Go.WideShapes Go.ChangeAt Go.RowKit Go.WideMaps Go.WideElems Go
open Go.ChangeMaps (open_string shut_string)
open Go.Stop
set_option maxRecDepth 100000 in
theorem Row_lifted (os : Os) (started : os.Started) (H : Type) (enc : TypeId × Value → H) :
    ReturnsInTold none {} Tryz.checked os 8 .any Input.okWide ((OpenSpec.ofChange Rows.fnFormatRowErrorBoolValueSpec).preRow enc Tryz.prog Tryz.f8 [] false seatLaid0) (fun F => ((OpenSpec.ofChange Rows.fnFormatRowErrorBoolValueSpec).at F).post enc Tryz.prog Tryz.f8 false true false false) (aloneAtReturn Tryz.prog) nothingAlways := by
  refine returnsInTold_of_row (C := Tryz.checked) (s := (OpenSpec.ofChange Rows.fnFormatRowErrorBoolValueSpec)) seat_enter own started (by kernel_rfl) Tryz.func8
    (witness_told (enc := enc) (C := Tryz.checked) (World.laidAll Tryz.prog os seatLaid0) #[.string ByteArray.empty, .bool false] (World.laidAll_os _ _ _) (wit_shaped0 os _) (Row_ok os)
      (OpenSpec.preRow_of_B rfl 8 (Row_pre os H enc) (Row_sz os H enc) (wit_laid0 os _))) ?_
  intro F W base args ds gs before _ hF hval0 hW _ _ hsz0 hL _
  have hval : ∀ (j : Nat) t v, Tryz.f8.params[j]? = some t → args[j]? = some v → Value.okWide Tryz.prog W .any base t v := hval0
  have hW' := hW
  obtain ⟨p, q, hA0, hV, rfl, _, _⟩ := hW'
  have hA : DataW.TrodAll enc Tryz.prog W 0 (fun _ => true) true Tryz.f8.params.toList args.toList ds p := hA0
  have hgl : gs.length = 5 := trodVars_length hV
  rw [Tryz.params8] at hA hval
  obtain ⟨argl⟩ := args
  have hA' : DataW.TrodAll enc Tryz.prog W 0 (fun _ => true) true [9, 4] argl ds p := hA
  obtain ⟨v0, vs0, d0, ds0, p0, q0, rfl, rfl, rfl, h0, r0⟩ := trodAll_cons hA'
  obtain ⟨v1, vs1, d1, ds1, p1, q1, rfl, rfl, rfl, h1, r1⟩ := trodAll_cons r0
  obtain ⟨rfl, rfl, rfl⟩ := trodAll_nil r1
  obtain ⟨t, rfl, rfl, rfl, ht⟩ := open_string Tryz.underlying9 (hval 0 9 v0 rfl rfl) h0
  unfold maxLen at ht
  obtain ⟨b, rfl, rfl, rfl⟩ := open_bool Tryz.underlying4 (hval 1 4 v1 rfl rfl) h1
  refine ((lawRow t b ht W)).mono fun e W' hend => ?_
  obtain ⟨he, hbel⟩ := hend
  subst he
  refine ⟨_, rfl, law_post (s := Rows.fnFormatRowErrorBoolValueSpec) laidOut hbel hW (by kernel_rfl) (by kernel_rfl) (by kernel_rfl) Tryz.underlying4 ?_⟩
  match gs, hgl with
  | [g1, g2, g3, g4, g5], _ => rfl
set_option maxRecDepth 100000 in
theorem Row_holds : Rows.FnFormatRowErrorBoolValueToldSaid :=
  Claim7.holds_of_told_tied_any_at .later 8 Tryz.f8 "fmt.Sprintf, its operands' methods called" [] [] (true, "fbab6ca1f85ab46ea9faf73590ddfdbe652fba307c9f7d29d3488c42dc2ee9a9") true false [.data, .data, .data, .data, .data, .data, .data, .data, .data, .data, .pinned, .pinned, .pinned] true
    Row_wf rfl rfl rfl laidOut seat_mapsRowed rfl ⟨rfl, rfl, rfl, rfl, rfl, rfl, rfl⟩ rfl rfl Row_tie Row_named Tryz.func8 Row_read
    (of_decide_eq_true (by kernel_rfl)) (by unfold Func.isWrapper; rw [if_neg (of_decide_eq_false (by kernel_rfl))]; exact ⟨rfl, rfl⟩)
    seat_stops.symm rfl seat_knobs.symm seat_env Row_inp Row_unf Row_rec Row_vars Row_maps Row_ifs Row_mo Row_lo Row_wk rfl Row_vr rfl rfl rfl rfl rfl seat_main seat_looks Row_si (by decide) Row_goes fnFormatRowErrorBoolValue_row_tie
    (OpenClaim.moreEntering_of seat_enter Row_m4 seat_heard Row_m6 Row_m7 Row_m8 Row_m9 Row_m10 Row_m11 Row_m12)
    ⟨_, WideRow.started_initial, seat_quiet _⟩
    (fun os started _ H enc _ => Row_lifted os started H enc) ⟨Row_v1, Row_v2⟩
#print axioms Row_holds
end Go.Proofs.YtfmjeacjfnlhiaaGreatFmt
