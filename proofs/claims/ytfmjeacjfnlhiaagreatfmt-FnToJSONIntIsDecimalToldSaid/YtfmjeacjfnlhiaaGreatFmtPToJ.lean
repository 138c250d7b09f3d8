/- For every int the call of the law returns true and leaves all that was there as it was. Conditions: none on the arguments; the package-level variables that the row lists hold what the program text lays in them; the cut stops at a formatting call that no run of this law comes to. -/
import Derived.Test.YtfmjeacjfnlhiaaGreatFmtRows
import Derived.Test.YtfmjeacjfnlhiaaGreatFmtTab
import Derived.Test.YtfmjeacjfnlhiaaGreatFmtCards
import Derived.Test.YtfmjeacjfnlhiaaGreatFmtTie
import Derived.Test.YtfmjeacjfnlhiaaGreatFmtPost
import Derived.Test.YtfmjeacjfnlhiaaGreatFmtCToJ
import Derived.Test.YtfmjeacjfnlhiaaGreatFmtSeatT
import Derived.Test.YtfmjeacjfnlhiaaGreatFmtLawT
import Derived.SevenTiedAt
import Derived.Laws.Cover2
namespace Go.Proofs.YtfmjeacjfnlhiaaGreatFmt
open Go.ChangeShapes Go.WideShapes Go.ChangeAt Go.RowKit Go.WideMaps Go.WideElems Go
open Go.ChangeMaps (open_string shut_string)
open Go.Stop
set_option maxRecDepth 100000 in
theorem ToJ_lifted (os : Os) (started : os.Started) (H : Type) (enc : TypeId × Value → H) :
    ReturnsInTold none {} Tryz.checked os 9 .any Input.okWide ((OpenSpec.ofChange Rows.fnToJSONIntIsDecimalSpec).preRow enc Tryz.prog Tryz.f9 [] false seatLaid0) (fun F => ((OpenSpec.ofChange Rows.fnToJSONIntIsDecimalSpec).at F).post enc Tryz.prog Tryz.f9 false true false false) (aloneAtReturn Tryz.prog) nothingAlways := by
  refine returnsInTold_of_row (C := Tryz.checked) (s := (OpenSpec.ofChange Rows.fnToJSONIntIsDecimalSpec)) seat_enter own started (by kernel_rfl) Tryz.func9
    (witness_told (enc := enc) (C := Tryz.checked) (World.laidAll Tryz.prog os seatLaid0) #[.int .i64 0] (World.laidAll_os _ _ _) (wit_shaped0 os _) (ToJ_ok os)
      (OpenSpec.preRow_of_B rfl 8 (ToJ_pre os H enc) (ToJ_sz os H enc) (wit_laid0 os _))) ?_
  intro F W base args ds gs before _ hF hval0 hW _ _ hsz0 hL _
  have hval : ∀ (j : Nat) t v, Tryz.f9.params[j]? = some t → args[j]? = some v → Value.okWide Tryz.prog W .any base t v := hval0
  have hW' := hW
  obtain ⟨p, q, hA0, hV, rfl, _, _⟩ := hW'
  have hA : DataW.TrodAll enc Tryz.prog W 0 (fun _ => true) true Tryz.f9.params.toList args.toList ds p := hA0
  have hgl : gs.length = 5 := trodVars_length hV
  rw [Tryz.params9] at hA hval
  obtain ⟨argl⟩ := args
  have hA' : DataW.TrodAll enc Tryz.prog W 0 (fun _ => true) true [3] argl ds p := hA
  obtain ⟨v0, vs0, d0, ds0, p0, q0, rfl, rfl, rfl, h0, r0⟩ := trodAll_cons hA'
  obtain ⟨rfl, rfl, rfl⟩ := trodAll_nil r0
  obtain ⟨v, rfl, rfl, rfl, wv⟩ := open_int Tryz.underlying3 (hval 0 3 v0 rfl rfl) h0
  have hv : -9223372036854775808 ≤ v ∧ v ≤ 9223372036854775807 := by simpa [Lit.wf, IntKind.min, IntKind.max, IntKind.signed, IntKind.bits] using wv
  refine ((lawT v hv W (tab_of_laid hL (List.mem_of_getElem? (i := 3) (by kernel_rfl))))).mono fun e W' hend => ?_
  obtain ⟨he, hbel⟩ := hend
  subst he
  refine ⟨_, rfl, law_post (s := Rows.fnToJSONIntIsDecimalSpec) laidOut hbel hW (by kernel_rfl) (by kernel_rfl) (by kernel_rfl) Tryz.underlying4 ?_⟩
  match gs, hgl with
  | [g1, g2, g3, g4, g5], _ => rfl
set_option maxRecDepth 100000 in
theorem ToJ_holds : Rows.FnToJSONIntIsDecimalToldSaid :=
  Claim7.holds_of_told_tied_any_at .later 9 Tryz.f9 "fmt.Sprintf, its operands' methods called" [] [] (true, "fbab6ca1f85ab46ea9faf73590ddfdbe652fba307c9f7d29d3488c42dc2ee9a9") true false [.data, .data, .data, .data, .data, .data, .data, .data, .data, .data, .pinned, .pinned, .pinned] true
    ToJ_wf rfl rfl rfl laidOut seat_mapsRowed rfl ⟨rfl, rfl, rfl, rfl, rfl, rfl, rfl⟩ rfl rfl ToJ_tie ToJ_named Tryz.func9 ToJ_read
    (of_decide_eq_true (by kernel_rfl)) (by unfold Func.isWrapper; rw [if_neg (of_decide_eq_false (by kernel_rfl))]; exact ⟨rfl, rfl⟩)
    seat_stops.symm rfl seat_knobs.symm seat_env ToJ_inp ToJ_unf ToJ_rec ToJ_vars ToJ_maps ToJ_ifs ToJ_mo ToJ_lo ToJ_wk rfl ToJ_vr rfl rfl rfl rfl rfl seat_main seat_looks ToJ_si (by decide) ToJ_goes fnToJSONIntIsDecimal_row_tie
    (OpenClaim.moreEntering_of seat_enter ToJ_m4 seat_heard ToJ_m6 ToJ_m7 ToJ_m8 ToJ_m9 ToJ_m10 ToJ_m11 ToJ_m12)
    ⟨_, WideRow.started_initial, seat_quiet _⟩
    (fun os started _ H enc _ => ToJ_lifted os started H enc) ⟨ToJ_v1, ToJ_v2⟩
#print axioms ToJ_holds
end Go.Proofs.YtfmjeacjfnlhiaaGreatFmt
