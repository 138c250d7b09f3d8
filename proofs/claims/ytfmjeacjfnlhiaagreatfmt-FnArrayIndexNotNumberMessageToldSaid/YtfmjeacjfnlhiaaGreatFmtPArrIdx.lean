/- For every kind and every bool the call of the law returns true and leaves all that was there as it was. Conditions: none on the arguments; the package-level variables that the row lists hold what the program text lays in them; the cut stops at a formatting call that no run of this law comes to. -/
import Derived.Test.YtfmjeacjfnlhiaaGreatFmtRows
import Derived.Test.YtfmjeacjfnlhiaaGreatFmtCards
import Derived.Test.YtfmjeacjfnlhiaaGreatFmtTie
import Derived.Test.YtfmjeacjfnlhiaaGreatFmtPost
import Derived.Test.YtfmjeacjfnlhiaaGreatFmtCArrIdx
import Derived.Test.YtfmjeacjfnlhiaaGreatFmtSeatT
import Derived.Test.YtfmjeacjfnlhiaaGreatFmtArrIdx
import Derived.SevenTiedAt
import Derived.Laws.Cover2
namespace Go.Proofs.YtfmjeacjfnlhiaaGreatFmt
open Go.ChangeShapes Go.WideShapes Go.ChangeAt Go.RowKit Go.WideMaps Go.WideElems Go
open Go.ChangeMaps (open_string shut_string)
open Go.Stop
set_option maxRecDepth 100000 in
theorem ArrIdx_lifted (os : Os) (started : os.Started) (H : Type) (enc : TypeId × Value → H) :
    ReturnsInTold none {} Tryz.checked os 3 .any Input.okWide ((OpenSpec.ofChange Rows.fnArrayIndexNotNumberMessageSpec).preRow enc Tryz.prog Tryz.f3 [] false seatLaid0) (fun F => ((OpenSpec.ofChange Rows.fnArrayIndexNotNumberMessageSpec).at F).post enc Tryz.prog Tryz.f3 false true false false) (aloneAtReturn Tryz.prog) nothingAlways := by
  refine returnsInTold_of_row (C := Tryz.checked) (s := (OpenSpec.ofChange Rows.fnArrayIndexNotNumberMessageSpec)) seat_enter own started (by kernel_rfl) Tryz.func3
    (witness_told (enc := enc) (C := Tryz.checked) (World.laidAll Tryz.prog os seatLaid0) #[.int .u8 0, .bool false] (World.laidAll_os _ _ _) (wit_shaped0 os _) (ArrIdx_ok os)
      (OpenSpec.preRow_of_B rfl 8 (ArrIdx_pre os H enc) (ArrIdx_sz os H enc) (wit_laid0 os _))) ?_
  intro F W base args ds gs before _ hF hval0 hW _ _ hsz0 hL _
  have hval : ∀ (j : Nat) t v, Tryz.f3.params[j]? = some t → args[j]? = some v → Value.okWide Tryz.prog W .any base t v := hval0
  have hW' := hW
  obtain ⟨p, q, hA0, hV, rfl, _, _⟩ := hW'
  have hA : DataW.TrodAll enc Tryz.prog W 0 (fun _ => true) true Tryz.f3.params.toList args.toList ds p := hA0
  have hgl : gs.length = 5 := trodVars_length hV
  rw [Tryz.params3] at hA hval
  obtain ⟨argl⟩ := args
  have hA' : DataW.TrodAll enc Tryz.prog W 0 (fun _ => true) true [5, 4] argl ds p := hA
  obtain ⟨v0, vs0, d0, ds0, p0, q0, rfl, rfl, rfl, h0, r0⟩ := trodAll_cons hA'
  obtain ⟨v1, vs1, d1, ds1, p1, q1, rfl, rfl, rfl, h1, r1⟩ := trodAll_cons r0
  obtain ⟨rfl, rfl, rfl⟩ := trodAll_nil r1
  obtain ⟨k, rfl, rfl, rfl, wk⟩ := open_int Tryz.underlying5 (hval 0 5 v0 rfl rfl) h0
  have hk : 0 ≤ k ∧ k ≤ 255 := by simpa [Lit.wf, IntKind.min, IntKind.max, IntKind.signed, IntKind.bits] using wk
  obtain ⟨b, rfl, rfl, rfl⟩ := open_bool Tryz.underlying4 (hval 1 4 v1 rfl rfl) h1
  refine ((lawArrIdx k b hk W)).mono fun e W' hend => ?_
  obtain ⟨he, hbel⟩ := hend
  subst he
  refine ⟨_, rfl, law_post (s := Rows.fnArrayIndexNotNumberMessageSpec) laidOut hbel hW (by kernel_rfl) (by kernel_rfl) (by kernel_rfl) Tryz.underlying4 ?_⟩
  match gs, hgl with
  | [g1, g2, g3, g4, g5], _ => rfl
set_option maxRecDepth 100000 in
theorem ArrIdx_holds : Rows.FnArrayIndexNotNumberMessageToldSaid :=
  Claim7.holds_of_told_tied_any_at .later 3 Tryz.f3 "fmt.Sprintf, its operands' methods called" [] [] (true, "fbab6ca1f85ab46ea9faf73590ddfdbe652fba307c9f7d29d3488c42dc2ee9a9") true false [.data, .data, .data, .data, .data, .data, .data, .data, .data, .data, .pinned, .pinned, .pinned] true
    ArrIdx_wf rfl rfl rfl laidOut seat_mapsRowed rfl ⟨rfl, rfl, rfl, rfl, rfl, rfl, rfl⟩ rfl rfl ArrIdx_tie ArrIdx_named Tryz.func3 ArrIdx_read
    (of_decide_eq_true (by kernel_rfl)) (by unfold Func.isWrapper; rw [if_neg (of_decide_eq_false (by kernel_rfl))]; exact ⟨rfl, rfl⟩)
    seat_stops.symm rfl seat_knobs.symm seat_env ArrIdx_inp ArrIdx_unf ArrIdx_rec ArrIdx_vars ArrIdx_maps ArrIdx_ifs ArrIdx_mo ArrIdx_lo ArrIdx_wk rfl ArrIdx_vr rfl rfl rfl rfl rfl seat_main seat_looks ArrIdx_si (by decide) ArrIdx_goes fnArrayIndexNotNumberMessage_row_tie
    (OpenClaim.moreEntering_of seat_enter ArrIdx_m4 seat_heard ArrIdx_m6 ArrIdx_m7 ArrIdx_m8 ArrIdx_m9 ArrIdx_m10 ArrIdx_m11 ArrIdx_m12)
    ⟨_, WideRow.started_initial, seat_quiet _⟩
    (fun os started _ H enc _ => ArrIdx_lifted os started H enc) ⟨ArrIdx_v1, ArrIdx_v2⟩
#print axioms ArrIdx_holds
end Go.Proofs.YtfmjeacjfnlhiaaGreatFmt
