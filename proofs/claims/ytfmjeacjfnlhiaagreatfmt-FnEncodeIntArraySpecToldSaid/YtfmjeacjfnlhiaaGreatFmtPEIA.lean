/- For every slice of ints the call of the law returns true and leaves all that was there as it was. Conditions: none on the arguments; the package-level variables that the row lists hold what the program text lays in them; the cut stops at a formatting call that no run of this law comes to. -/
import Derived.Test.YtfmjeacjfnlhiaaGreatFmtRows
import Derived.Test.YtfmjeacjfnlhiaaGreatFmtTab
import Derived.Test.YtfmjeacjfnlhiaaGreatFmtCards
import Derived.Test.YtfmjeacjfnlhiaaGreatFmtTie
import Derived.Test.YtfmjeacjfnlhiaaGreatFmtPost
import Derived.Test.YtfmjeacjfnlhiaaGreatFmtCEIA
import Derived.Test.YtfmjeacjfnlhiaaGreatFmtSeatT
import Derived.Test.YtfmjeacjfnlhiaaGreatFmtLawE
import Derived.SevenTiedAt
import Derived.Laws.Cover2
namespace Go.Proofs.YtfmjeacjfnlhiaaGreatFmt
open Go.ChangeShapes Go.WideShapes Go.ChangeAt Go.RowKit Go.WideMaps Go.WideElems Go
open Go.ChangeMaps (open_string shut_string)
open Go.Stop
set_option maxRecDepth 100000 in
theorem EIA_lifted (os : Os) (started : os.Started) (H : Type) (enc : TypeId × Value → H) :
    ReturnsInTold none {} Tryz.checked os 10 .any Input.okWide ((OpenSpec.ofChange Rows.fnEncodeIntArraySpecSpec).preRow enc Tryz.prog Tryz.f10 [] false seatLaid0) (fun F => ((OpenSpec.ofChange Rows.fnEncodeIntArraySpecSpec).at F).post enc Tryz.prog Tryz.f10 false true false false) (aloneAtReturn Tryz.prog) nothingAlways := by
  refine returnsInTold_of_row (C := Tryz.checked) (s := (OpenSpec.ofChange Rows.fnEncodeIntArraySpecSpec)) seat_enter own started (by kernel_rfl) Tryz.func10
    (witness_told (enc := enc) (C := Tryz.checked) (World.laidAll Tryz.prog os seatLaid0) #[.slice none 0 0] (World.laidAll_os _ _ _) (wit_shaped0 os _) (EIA_ok os)
      (OpenSpec.preRow_of_B rfl 8 (EIA_pre os H enc) (EIA_sz os H enc) (wit_laid0 os _))) ?_
  intro F W base args ds gs before _ hF hval0 hW _ _ hsz0 hL _
  have hval : ∀ (j : Nat) t v, Tryz.f10.params[j]? = some t → args[j]? = some v → Value.okWide Tryz.prog W .any base t v := hval0
  have hW' := hW
  obtain ⟨p, q, hA0, hV, rfl, _, _⟩ := hW'
  have hA : DataW.TrodAll enc Tryz.prog W 0 (fun _ => true) true Tryz.f10.params.toList args.toList ds p := hA0
  have hgl : gs.length = 5 := trodVars_length hV
  rw [Tryz.params10] at hA hval
  obtain ⟨argl⟩ := args
  have hA' : DataW.TrodAll enc Tryz.prog W 0 (fun _ => true) true [38] argl ds p := hA
  obtain ⟨v0, vs0, d0, ds0, p0, q0, rfl, rfl, rfl, h0, r0⟩ := trodAll_cons hA'
  obtain ⟨rfl, rfl, rfl⟩ := trodAll_nil r0
  obtain ⟨zs_ao, zs_len, zs_cap, zs, rfl, zs_hl, hzs, hzsb, hzsr⟩ := ints_opened (enc := enc) (hval 0 38 v0 rfl rfl) h0
  subst zs_hl
  refine ((lawE zs_ao zs_cap zs W hzs hzsb hzsr (tab_of_laid hL (List.mem_of_getElem? (i := 3) (by kernel_rfl))))).mono fun e W' hend => ?_
  obtain ⟨he, hbel⟩ := hend
  subst he
  refine ⟨_, rfl, law_post (s := Rows.fnEncodeIntArraySpecSpec) laidOut hbel hW (by kernel_rfl) (by kernel_rfl) (by kernel_rfl) Tryz.underlying4 ?_⟩
  match gs, hgl with
  | [g1, g2, g3, g4, g5], _ => rfl
set_option maxRecDepth 100000 in
theorem EIA_holds : Rows.FnEncodeIntArraySpecToldSaid :=
  Claim7.holds_of_told_tied_any_at .later 10 Tryz.f10 "fmt.Sprintf, its operands' methods called" [] [] (true, "fbab6ca1f85ab46ea9faf73590ddfdbe652fba307c9f7d29d3488c42dc2ee9a9") true false [.data, .data, .data, .data, .data, .data, .data, .data, .data, .data, .pinned, .pinned, .pinned] true
    EIA_wf rfl rfl rfl laidOut seat_mapsRowed rfl ⟨rfl, rfl, rfl, rfl, rfl, rfl, rfl⟩ rfl rfl EIA_tie EIA_named Tryz.func10 EIA_read
    (of_decide_eq_true (by kernel_rfl)) (by unfold Func.isWrapper; rw [if_neg (of_decide_eq_false (by kernel_rfl))]; exact ⟨rfl, rfl⟩)
    seat_stops.symm rfl seat_knobs.symm seat_env EIA_inp EIA_unf EIA_rec EIA_vars EIA_maps EIA_ifs EIA_mo EIA_lo EIA_wk rfl EIA_vr rfl rfl rfl rfl rfl seat_main seat_looks EIA_si (by decide) EIA_goes fnEncodeIntArraySpec_row_tie
    (OpenClaim.moreEntering_of seat_enter EIA_m4 seat_heard EIA_m6 EIA_m7 EIA_m8 EIA_m9 EIA_m10 EIA_m11 EIA_m12)
    ⟨_, WideRow.started_initial, seat_quiet _⟩
    (fun os started _ H enc _ => EIA_lifted os started H enc) ⟨EIA_v1, EIA_v2⟩
#print axioms EIA_holds
end Go.Proofs.YtfmjeacjfnlhiaaGreatFmt
