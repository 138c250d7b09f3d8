/- For every slice of strings the call of the law returns true and leaves all that was there as it was. Conditions: none on the arguments; the package-level variables that the row lists hold what the program text lays in them; the cut stops at a formatting call that no run of this law comes to. -/
import Derived.Test.YtdkccihoecpcaaaGreatFmtRows
import Derived.Test.YtdkccihoecpcaaaGreatFmtTab
import Derived.Test.YtdkccihoecpcaaaGreatFmtU8
import Derived.Test.YtdkccihoecpcaaaGreatFmtCards
import Derived.Test.YtdkccihoecpcaaaGreatFmtTie
import Derived.Test.YtdkccihoecpcaaaGreatFmtPost
import Derived.Test.YtdkccihoecpcaaaGreatFmtCEOS
import Derived.Test.YtdkccihoecpcaaaGreatFmtSeatT
import Derived.Test.YtdkccihoecpcaaaGreatFmtLawO
import Derived.SevenTiedAt
import Derived.Laws.Cover2
namespace Go.Proofs.YtdkccihoecpcaaaGreatFmt
open Go.ChangeShapes Go.WideShapes Go.ChangeAt Go.RowKit Go.WideMaps Go.WideElems Go
open Go.ChangeMaps (open_string shut_string)
open Go.Stop
set_option maxRecDepth 100000 in
theorem EOS_lifted (os : Os) (started : os.Started) (H : Type) (enc : TypeId × Value → H) :
    ReturnsInTold none {} Tryz.checked os 6 .any Input.okWide ((OpenSpec.ofChange Rows.fnEncodeObjectSortedSpecSpec).preRow enc Tryz.prog Tryz.f6 [] false seatLaid0) (fun F => ((OpenSpec.ofChange Rows.fnEncodeObjectSortedSpecSpec).at F).post enc Tryz.prog Tryz.f6 false true false false) (aloneAtReturn Tryz.prog) nothingAlways := by
  refine returnsInTold_of_row (C := Tryz.checked) (s := (OpenSpec.ofChange Rows.fnEncodeObjectSortedSpecSpec)) seat_enter own started (by kernel_rfl) Tryz.func6
    (witness_told (enc := enc) (C := Tryz.checked) (World.laidAll Tryz.prog os seatLaid0) #[.slice none 0 0] (World.laidAll_os _ _ _) (wit_shaped0 os _) (EOS_ok os)
      (OpenSpec.preRow_of_B rfl 8 (EOS_pre os H enc) (EOS_sz os H enc) (wit_laid0 os _))) ?_
  intro F W base args ds gs before _ hF hval0 hW _ _ hsz0 hL _
  have hval : ∀ (j : Nat) t v, Tryz.f6.params[j]? = some t → args[j]? = some v → Value.okWide Tryz.prog W .any base t v := hval0
  have hW' := hW
  obtain ⟨p, q, hA0, hV, rfl, _, _⟩ := hW'
  have hA : DataW.TrodAll enc Tryz.prog W 0 (fun _ => true) true Tryz.f6.params.toList args.toList ds p := hA0
  have hgl : gs.length = 5 := trodVars_length hV
  rw [Tryz.params6] at hA hval
  obtain ⟨argl⟩ := args
  have hA' : DataW.TrodAll enc Tryz.prog W 0 (fun _ => true) true [42] argl ds p := hA
  obtain ⟨v0, vs0, d0, ds0, p0, q0, rfl, rfl, rfl, h0, r0⟩ := trodAll_cons hA'
  obtain ⟨rfl, rfl, rfl⟩ := trodAll_nil r0
  obtain ⟨ks_ao, ks_len, ks_cap, ks, rfl, ks_hl, hks, hksb, hksr⟩ := strs_opened (enc := enc) (hval 0 42 v0 rfl rfl) h0
  subst ks_hl
  refine ((lawO ks_ao ks_cap ks W hks hksb hksr (u8_of_laid hL (List.mem_of_getElem? (i := 12) (by kernel_rfl)) (List.mem_of_getElem? (i := 4) (by kernel_rfl))) (tab_of_laid hL (List.mem_of_getElem? (i := 3) (by kernel_rfl))))).mono fun e W' hend => ?_
  obtain ⟨he, hbel⟩ := hend
  subst he
  refine ⟨_, rfl, law_post (s := Rows.fnEncodeObjectSortedSpecSpec) laidOut hbel hW (by kernel_rfl) (by kernel_rfl) (by kernel_rfl) Tryz.underlying4 ?_⟩
  match gs, hgl with
  | [g1, g2, g3, g4, g5], _ => rfl
set_option maxRecDepth 100000 in
theorem EOS_holds : Rows.FnEncodeObjectSortedSpecToldSaid :=
  Claim7.holds_of_told_tied_any_at .later 6 Tryz.f6 "fmt.Sprintf, its operands' methods called" [] [] (true, "23ed704817c54e9fbe6c5ffa07d4a23ae5669c340dfaba732f06bfd8960f2176") true false [.data, .data, .data, .data, .data, .data, .data, .data, .data, .data, .pinned, .pinned, .pinned] true
    EOS_wf rfl rfl rfl laidOut seat_mapsRowed rfl ⟨rfl, rfl, rfl, rfl, rfl, rfl, rfl⟩ rfl rfl EOS_tie EOS_named Tryz.func6 EOS_read
    (of_decide_eq_true (by kernel_rfl)) (by unfold Func.isWrapper; rw [if_neg (of_decide_eq_false (by kernel_rfl))]; exact ⟨rfl, rfl⟩)
    seat_stops.symm rfl seat_knobs.symm seat_env EOS_inp EOS_unf EOS_rec EOS_vars EOS_maps EOS_ifs EOS_mo EOS_lo EOS_wk rfl EOS_vr rfl rfl rfl rfl rfl seat_main seat_looks EOS_si (by decide) EOS_goes fnEncodeObjectSortedSpec_row_tie
    (OpenClaim.moreEntering_of seat_enter EOS_m4 seat_heard EOS_m6 EOS_m7 EOS_m8 EOS_m9 EOS_m10 EOS_m11 EOS_m12)
    ⟨_, WideRow.started_initial, seat_quiet _⟩
    (fun os started _ H enc _ => EOS_lifted os started H enc) ⟨EOS_v1, EOS_v2⟩
#print axioms EOS_holds
end Go.Proofs.YtdkccihoecpcaaaGreatFmt
