/- For every int, every bool and every float the call of the law returns true and leaves all that was there as it was. Conditions: none on the arguments; the package-level variables that the row lists hold what the program text lays in them; the cut stops at a formatting call that no run of this law comes to. -/
import Derived.Test.YtdkccihoecpcaaaGreatFmtRows
import Derived.Test.YtdkccihoecpcaaaGreatFmtTab
import Derived.Test.YtdkccihoecpcaaaGreatFmtP10
import Derived.Test.YtdkccihoecpcaaaGreatFmtCards
import Derived.Test.YtdkccihoecpcaaaGreatFmtTie
import Derived.Test.YtdkccihoecpcaaaGreatFmtPost
import Derived.Test.YtdkccihoecpcaaaGreatFmtCSc
import Derived.Test.YtdkccihoecpcaaaGreatFmtSeatT
import Derived.Test.YtdkccihoecpcaaaGreatFmtLawSc
import Derived.SevenTiedAt
import Derived.Laws.Cover2
namespace Go.Proofs.YtdkccihoecpcaaaGreatFmt
open Go.ChangeShapes Go.WideShapes Go.ChangeAt Go.RowKit Go.WideMaps Go.WideElems Go
open Go.ChangeMaps (open_string shut_string)
open Go.Stop
set_option maxRecDepth 100000 in
theorem Sc_lifted (os : Os) (started : os.Started) (H : Type) (enc : TypeId × Value → H) :
    ReturnsInTold none {} Tryz.checked os 5 .any Input.okWide ((OpenSpec.ofChange Rows.fnMarshalScalarTableSpec).preRow enc Tryz.prog Tryz.f5 [] false seatLaid0) (fun F => ((OpenSpec.ofChange Rows.fnMarshalScalarTableSpec).at F).post enc Tryz.prog Tryz.f5 false true false false) (aloneAtReturn Tryz.prog) nothingAlways := by
  refine returnsInTold_of_row (C := Tryz.checked) (s := (OpenSpec.ofChange Rows.fnMarshalScalarTableSpec)) seat_enter own started (by kernel_rfl) Tryz.func5
    (witness_told (enc := enc) (C := Tryz.checked) (World.laidAll Tryz.prog os seatLaid0) #[.int .i64 0, .bool false, .float .f64 0] (World.laidAll_os _ _ _) (wit_shaped0 os _) (Sc_ok os)
      (OpenSpec.preRow_of_B rfl 8 (Sc_pre os H enc) (Sc_sz os H enc) (wit_laid0 os _))) ?_
  intro F W base args ds gs before _ hF hval0 hW _ _ hsz0 hL _
  have hval : ∀ (j : Nat) t v, Tryz.f5.params[j]? = some t → args[j]? = some v → Value.okWide Tryz.prog W .any base t v := hval0
  have hW' := hW
  obtain ⟨p, q, hA0, hV, rfl, _, _⟩ := hW'
  have hA : DataW.TrodAll enc Tryz.prog W 0 (fun _ => true) true Tryz.f5.params.toList args.toList ds p := hA0
  have hgl : gs.length = 5 := trodVars_length hV
  rw [Tryz.params5] at hA hval
  obtain ⟨argl⟩ := args
  have hA' : DataW.TrodAll enc Tryz.prog W 0 (fun _ => true) true [3, 4, 22] argl ds p := hA
  obtain ⟨v0, vs0, d0, ds0, p0, q0, rfl, rfl, rfl, h0, r0⟩ := trodAll_cons hA'
  obtain ⟨v1, vs1, d1, ds1, p1, q1, rfl, rfl, rfl, h1, r1⟩ := trodAll_cons r0
  obtain ⟨v2, vs2, d2, ds2, p2, q2, rfl, rfl, rfl, h2, r2⟩ := trodAll_cons r1
  obtain ⟨rfl, rfl, rfl⟩ := trodAll_nil r2
  obtain ⟨n, rfl, rfl, rfl, wn⟩ := open_int Tryz.underlying3 (hval 0 3 v0 rfl rfl) h0
  have hn : -9223372036854775808 ≤ n ∧ n ≤ 9223372036854775807 := by simpa [Lit.wf, IntKind.min, IntKind.max, IntKind.signed, IntKind.bits] using wn
  obtain ⟨b, rfl, rfl, rfl⟩ := open_bool Tryz.underlying4 (hval 1 4 v1 rfl rfl) h1
  obtain ⟨f, rfl, rfl, rfl, hf⟩ := open_float Tryz.underlying22 (hval 2 22 v2 rfl rfl) h2
  refine ((lawSc n hn b f (float_lt hf) W (p10_of_laid hL (List.mem_of_getElem? (i := 11) (by kernel_rfl))) (tab_of_laid hL (List.mem_of_getElem? (i := 3) (by kernel_rfl))))).mono fun e W' hend => ?_
  obtain ⟨he, hbel⟩ := hend
  subst he
  refine ⟨_, rfl, law_post (s := Rows.fnMarshalScalarTableSpec) laidOut hbel hW (by kernel_rfl) (by kernel_rfl) (by kernel_rfl) Tryz.underlying4 ?_⟩
  match gs, hgl with
  | [g1, g2, g3, g4, g5], _ => rfl
set_option maxRecDepth 100000 in
theorem Sc_holds : Rows.FnMarshalScalarTableToldSaid :=
  Claim7.holds_of_told_tied_any_at .later 5 Tryz.f5 "fmt.Sprintf, its operands' methods called" [] [] (true, "23ed704817c54e9fbe6c5ffa07d4a23ae5669c340dfaba732f06bfd8960f2176") true false [.data, .data, .data, .data, .data, .data, .data, .data, .data, .data, .pinned, .pinned, .pinned] true
    Sc_wf rfl rfl rfl laidOut seat_mapsRowed rfl ⟨rfl, rfl, rfl, rfl, rfl, rfl, rfl⟩ rfl rfl Sc_tie Sc_named Tryz.func5 Sc_read
    (of_decide_eq_true (by kernel_rfl)) (by unfold Func.isWrapper; rw [if_neg (of_decide_eq_false (by kernel_rfl))]; exact ⟨rfl, rfl⟩)
    seat_stops.symm rfl seat_knobs.symm seat_env Sc_inp Sc_unf Sc_rec Sc_vars Sc_maps Sc_ifs Sc_mo Sc_lo Sc_wk rfl Sc_vr rfl rfl rfl rfl rfl seat_main seat_looks Sc_si (by decide) Sc_goes fnMarshalScalarTable_row_tie
    (OpenClaim.moreEntering_of seat_enter Sc_m4 seat_heard Sc_m6 Sc_m7 Sc_m8 Sc_m9 Sc_m10 Sc_m11 Sc_m12)
    ⟨_, WideRow.started_initial, seat_quiet _⟩
    (fun os started _ H enc _ => Sc_lifted os started H enc) ⟨Sc_v1, Sc_v2⟩
#print axioms Sc_holds
end Go.Proofs.YtdkccihoecpcaaaGreatFmt
