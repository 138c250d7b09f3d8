/- For every string the call of the law returns true and leaves all that was there as it was. Conditions: none on the arguments; the package-level variables that the row lists hold what the program text lays in them; the cut stops at a formatting call that no run of this law comes to. -/
import Derived.Test.YtlhndkonhjjcgaaGreatFmtRows
import Derived.Test.YtlhndkonhjjcgaaGreatFmtCards
import Derived.Test.YtlhndkonhjjcgaaGreatFmtTie
import Derived.Test.YtlhndkonhjjcgaaGreatFmtPost
import Derived.Test.YtlhndkonhjjcgaaGreatFmtCB64
import Derived.Test.YtlhndkonhjjcgaaGreatFmtSeatT
import Derived.Test.YtlhndkonhjjcgaaGreatFmtLaw64
import Derived.SevenTiedAt
import Derived.Laws.Cover2
namespace Go.Proofs.YtlhndkonhjjcgaaGreatFmt
open Go.ChangeShapes Go.WideShapes Go.ChangeAt Go.RowKit Go.WideMaps Go.WideElems Go
open Go.ChangeMaps (open_string shut_string)
open Go.Stop
set_option maxRecDepth 100000 in
theorem B64_lifted (os : Os) (started : os.Started) (H : Type) (enc : TypeId × Value → H) :
    ReturnsInTold none {} Tryz.checked os 6 .any Input.okWide ((OpenSpec.ofChange Rows.fnBase64ExactSpec).preRow enc Tryz.prog Tryz.f6 [] false seatLaid0) (fun F => ((OpenSpec.ofChange Rows.fnBase64ExactSpec).at F).post enc Tryz.prog Tryz.f6 false true false false) (aloneAtReturn Tryz.prog) nothingAlways := by
  refine returnsInTold_of_row (C := Tryz.checked) (s := (OpenSpec.ofChange Rows.fnBase64ExactSpec)) seat_enter own started (by kernel_rfl) Tryz.func6
    (witness_told (enc := enc) (C := Tryz.checked) (World.laidAll Tryz.prog os seatLaid0) #[.string ByteArray.empty] (World.laidAll_os _ _ _) (wit_shaped0 os _) (B64_ok os)
      (OpenSpec.preRow_of_B rfl 8 (B64_pre os H enc) (B64_sz os H enc) (wit_laid0 os _))) ?_
  intro F W base args ds gs before _ hF hval0 hW _ _ hsz0 hL _
  have hval : ∀ (j : Nat) t v, Tryz.f6.params[j]? = some t → args[j]? = some v → Value.okWide Tryz.prog W .any base t v := hval0
  have hW' := hW
  obtain ⟨p, q, hA0, hV, rfl, _, _⟩ := hW'
  have hA : DataW.TrodAll enc Tryz.prog W 0 (fun _ => true) true Tryz.f6.params.toList args.toList ds p := hA0
  have hgl : gs.length = 5 := trodVars_length hV
  rw [Tryz.params6] at hA hval
  obtain ⟨argl⟩ := args
  have hA' : DataW.TrodAll enc Tryz.prog W 0 (fun _ => true) true [9] argl ds p := hA
  obtain ⟨v0, vs0, d0, ds0, p0, q0, rfl, rfl, rfl, h0, r0⟩ := trodAll_cons hA'
  obtain ⟨rfl, rfl, rfl⟩ := trodAll_nil r0
  obtain ⟨s, rfl, rfl, rfl, hs⟩ := open_string Tryz.underlying9 (hval 0 9 v0 rfl rfl) h0
  unfold maxLen at hs
  refine ((law64 s hs W)).mono fun e W' hend => ?_
  obtain ⟨he, hbel⟩ := hend
  subst he
  refine ⟨_, rfl, law_post (s := Rows.fnBase64ExactSpec) laidOut hbel hW (by kernel_rfl) (by kernel_rfl) (by kernel_rfl) Tryz.underlying4 ?_⟩
  match gs, hgl with
  | [g1, g2, g3, g4, g5], _ => rfl
set_option maxRecDepth 100000 in
theorem B64_holds : Rows.FnBase64ExactToldSaid :=
  Claim7.holds_of_told_tied_any_at .later 6 Tryz.f6 "fmt.Sprintf, its operands' methods called" [] [] (true, "bab15e8e11f20c400d6dbbefca0c89114aa647b10907ed4d9101af98c4dd86d6") true false [.data, .data, .data, .data, .data, .data, .data, .data, .data, .data, .pinned, .pinned, .pinned] true
    B64_wf rfl rfl rfl laidOut seat_mapsRowed rfl ⟨rfl, rfl, rfl, rfl, rfl, rfl, rfl⟩ rfl rfl B64_tie B64_named Tryz.func6 B64_read
    (of_decide_eq_true (by kernel_rfl)) (by unfold Func.isWrapper; rw [if_neg (of_decide_eq_false (by kernel_rfl))]; exact ⟨rfl, rfl⟩)
    seat_stops.symm rfl seat_knobs.symm seat_env B64_inp B64_unf B64_rec B64_vars B64_maps B64_ifs B64_mo B64_lo B64_wk rfl B64_vr rfl rfl rfl rfl rfl seat_main seat_looks B64_si (by decide) B64_goes fnBase64Exact_row_tie
    (OpenClaim.moreEntering_of seat_enter B64_m4 seat_heard B64_m6 B64_m7 B64_m8 B64_m9 B64_m10 B64_m11 B64_m12)
    ⟨_, WideRow.started_initial, seat_quiet _⟩
    (fun os started _ H enc _ => B64_lifted os started H enc) ⟨B64_v1, B64_v2⟩
#print axioms B64_holds
end Go.Proofs.YtlhndkonhjjcgaaGreatFmt
