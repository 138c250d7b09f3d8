/- For every string the call of the law returns true and leaves all that was there as it was. Conditions: none on the arguments; the package-level variables that the row lists hold what the program text lays in them; the cut stops at a formatting call that no run of this law comes to. -/
import Derived.Test.YtlhndkonhjjcgaaGreatFmtRows
import Derived.Test.YtlhndkonhjjcgaaGreatFmtU8
import Derived.Test.YtlhndkonhjjcgaaGreatFmtCards
import Derived.Test.YtlhndkonhjjcgaaGreatFmtTie
import Derived.Test.YtlhndkonhjjcgaaGreatFmtPost
import Derived.Test.YtlhndkonhjjcgaaGreatFmtCJRT
import Derived.Test.YtlhndkonhjjcgaaGreatFmtSeatT
import Derived.Test.YtlhndkonhjjcgaaGreatFmtLawR
import Derived.SevenTiedAt
import Derived.Laws.Cover2
namespace Go.Proofs.YtlhndkonhjjcgaaGreatFmt
open Go.ChangeShapes Go.WideShapes Go.ChangeAt Go.RowKit Go.WideMaps Go.WideElems Go
open Go.ChangeMaps (open_string shut_string)
open Go.Stop
set_option maxRecDepth 100000 in
theorem JRT_lifted (os : Os) (started : os.Started) (H : Type) (enc : TypeId × Value → H) :
    ReturnsInTold none {} Tryz.checked os 3 .any Input.okWide ((OpenSpec.ofChange Rows.fnJsonMarshalRoundTripSpec).preRow enc Tryz.prog Tryz.f3 [] false seatLaid0) (fun F => ((OpenSpec.ofChange Rows.fnJsonMarshalRoundTripSpec).at F).post enc Tryz.prog Tryz.f3 false true false false) (aloneAtReturn Tryz.prog) nothingAlways := by
  refine returnsInTold_of_row (C := Tryz.checked) (s := (OpenSpec.ofChange Rows.fnJsonMarshalRoundTripSpec)) seat_enter own started (by kernel_rfl) Tryz.func3
    (witness_told (enc := enc) (C := Tryz.checked) (World.laidAll Tryz.prog os seatLaid0) #[.string ByteArray.empty] (World.laidAll_os _ _ _) (wit_shaped0 os _) (JRT_ok os)
      (OpenSpec.preRow_of_B rfl 8 (JRT_pre os H enc) (JRT_sz os H enc) (wit_laid0 os _))) ?_
  intro F W base args ds gs before _ hF hval0 hW _ _ hsz0 hL _
  have hval : ∀ (j : Nat) t v, Tryz.f3.params[j]? = some t → args[j]? = some v → Value.okWide Tryz.prog W .any base t v := hval0
  have hW' := hW
  obtain ⟨p, q, hA0, hV, rfl, _, _⟩ := hW'
  have hA : DataW.TrodAll enc Tryz.prog W 0 (fun _ => true) true Tryz.f3.params.toList args.toList ds p := hA0
  have hgl : gs.length = 5 := trodVars_length hV
  rw [Tryz.params3] at hA hval
  obtain ⟨argl⟩ := args
  have hA' : DataW.TrodAll enc Tryz.prog W 0 (fun _ => true) true [9] argl ds p := hA
  obtain ⟨v0, vs0, d0, ds0, p0, q0, rfl, rfl, rfl, h0, r0⟩ := trodAll_cons hA'
  obtain ⟨rfl, rfl, rfl⟩ := trodAll_nil r0
  obtain ⟨s, rfl, rfl, rfl, hs⟩ := open_string Tryz.underlying9 (hval 0 9 v0 rfl rfl) h0
  unfold maxLen at hs
  refine ((lawR s hs W (u8_of_laid hL (List.mem_of_getElem? (i := 12) (by kernel_rfl)) (List.mem_of_getElem? (i := 4) (by kernel_rfl))))).mono fun e W' hend => ?_
  obtain ⟨he, hbel⟩ := hend
  subst he
  refine ⟨_, rfl, law_post (s := Rows.fnJsonMarshalRoundTripSpec) laidOut hbel hW (by kernel_rfl) (by kernel_rfl) (by kernel_rfl) Tryz.underlying4 ?_⟩
  match gs, hgl with
  | [g1, g2, g3, g4, g5], _ => rfl
set_option maxRecDepth 100000 in
theorem JRT_holds : Rows.FnJsonMarshalRoundTripToldSaid :=
  Claim7.holds_of_told_tied_any_at .later 3 Tryz.f3 "fmt.Sprintf, its operands' methods called" [] [] (true, "bab15e8e11f20c400d6dbbefca0c89114aa647b10907ed4d9101af98c4dd86d6") true false [.data, .data, .data, .data, .data, .data, .data, .data, .data, .data, .pinned, .pinned, .pinned] true
    JRT_wf rfl rfl rfl laidOut seat_mapsRowed rfl ⟨rfl, rfl, rfl, rfl, rfl, rfl, rfl⟩ rfl rfl JRT_tie JRT_named Tryz.func3 JRT_read
    (of_decide_eq_true (by kernel_rfl)) (by unfold Func.isWrapper; rw [if_neg (of_decide_eq_false (by kernel_rfl))]; exact ⟨rfl, rfl⟩)
    seat_stops.symm rfl seat_knobs.symm seat_env JRT_inp JRT_unf JRT_rec JRT_vars JRT_maps JRT_ifs JRT_mo JRT_lo JRT_wk rfl JRT_vr rfl rfl rfl rfl rfl seat_main seat_looks JRT_si (by decide) JRT_goes fnJsonMarshalRoundTrip_row_tie
    (OpenClaim.moreEntering_of seat_enter JRT_m4 seat_heard JRT_m6 JRT_m7 JRT_m8 JRT_m9 JRT_m10 JRT_m11 JRT_m12)
    ⟨_, WideRow.started_initial, seat_quiet _⟩
    (fun os started _ H enc _ => JRT_lifted os started H enc) ⟨JRT_v1, JRT_v2⟩
#print axioms JRT_holds
end Go.Proofs.YtlhndkonhjjcgaaGreatFmt
