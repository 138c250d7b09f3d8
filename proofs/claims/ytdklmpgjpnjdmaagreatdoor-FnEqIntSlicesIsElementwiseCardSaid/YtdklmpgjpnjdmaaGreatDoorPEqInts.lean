/- For every two slices of ints the call of the law returns true and leaves all that was there as it was. Conditions: none on the arguments; the package-level variables that the row lists hold what the program text lays in them. -/
import Derived.Test.YtdklmpgjpnjdmaaGreatDoorRows
import Derived.Test.YtdklmpgjpnjdmaaGreatDoorCards
import Derived.Test.YtdklmpgjpnjdmaaGreatDoorTie
import Derived.Test.YtdklmpgjpnjdmaaGreatDoorPost
import Derived.Test.YtdklmpgjpnjdmaaGreatDoorCEqInts
import Derived.Test.YtdklmpgjpnjdmaaGreatDoorSeat
import Derived.Test.YtdklmpgjpnjdmaaGreatDoorLawI
import Derived.SevenTiedAt
import Derived.Laws.Cover2
namespace Go.Proofs.YtdklmpgjpnjdmaaGreatDoor
open Go.ChangeShapes Go.WideShapes Go.ChangeAt Go.RowKit Go.WideMaps Go.WideElems Go
open Go.ChangeMaps (open_string shut_string)
theorem EqInts_goes : false = Rows.fnEqIntSlicesIsElementwiseRow.goesBy Tryz.pinned.checked.prog := by kernel_rfl
theorem EqInts_named : Tryz.prog.funcNamed "github.com/itchyny/gojq/n001_81.FnEqIntSlicesIsElementwise" = some 5 := by kernel_rfl
theorem EqInts_stand : ([28].all fun u => !Tryz.prog.wantsStandIn u) = true := by kernel_rfl
set_option maxRecDepth 100000 in
theorem EqInts_lifted (os : Os) (started : os.Started) (H : Type) (enc : TypeId × Value → H) :
    ReturnsInHanded {} Tryz.checked os 5 .any (fun w args => (Rows.fnEqIntSlicesIsElementwiseSpec.pre enc Tryz.prog Tryz.f5 [] false w args ∧ laidMetH Tryz.prog seatLaid0 w) ∧ sizedMet enc Tryz.prog Tryz.f5 (OpenSpec.ofChange Rows.fnEqIntSlicesIsElementwiseSpec) false w args)
      (Rows.fnEqIntSlicesIsElementwiseSpec.post enc Tryz.prog Tryz.f5 false true false false) := by
  refine returnsInHanded_of_change_and (C := Tryz.checked) (X := fun w _ => laidMetH Tryz.prog seatLaid0 w) (fun _ _ _ hh h => h.of_heap hh) own started (by kernel_rfl) Tryz.func5
    (ChangeSpec.witness_shaped (enc := enc) (C := Tryz.checked) (os := os) (X := fun w _ => laidMetH Tryz.prog seatLaid0 w) false (World.laidAll Tryz.prog os seatLaid0) #[.slice none 0 0, .slice none 0 0] 8 (World.laidAll_os _ _ _)
      (wit_shaped0 os _) (EqInts_ok os) (EqInts_pre os H enc) (EqInts_sz os H enc) (wit_laid0 os _)) ?_
  intro W base args ds gs before hval0 hW _ hsz0 hL _
  have hval : ∀ (j : Nat) t v, Tryz.f5.params[j]? = some t → args[j]? = some v → Value.okWide Tryz.prog W .any base t v := hval0
  have hW' := hW
  obtain ⟨p, q, hA0, hV, rfl, _, _⟩ := hW
  have hA : DataW.TrodAll enc Tryz.prog W 0 (fun _ => true) true Tryz.f5.params.toList args.toList ds p := hA0
  have hgl : gs.length = 7 := trodVars_length hV
  rw [Tryz.params5] at hA hval
  obtain ⟨argl⟩ := args
  have hA' : DataW.TrodAll enc Tryz.prog W 0 (fun _ => true) true [28, 28] argl ds p := hA
  obtain ⟨v0, vs0, d0, ds0, p0, q0, rfl, rfl, rfl, h0, r0⟩ := trodAll_cons hA'
  obtain ⟨v1, vs1, d1, ds1, p1, q1, rfl, rfl, rfl, h1, r1⟩ := trodAll_cons r0
  obtain ⟨rfl, rfl, rfl⟩ := trodAll_nil r1
  obtain ⟨l_ao, l_len, l_cap, l, rfl, l_hl, hl, hlb, hlr⟩ := ints_opened (enc := enc) (hval 0 28 v0 rfl rfl) h0
  subst l_hl
  obtain ⟨r_ao, r_len, r_cap, r, rfl, r_hl, hr, hrb, hrr⟩ := ints_opened (enc := enc) (hval 1 28 v1 rfl rfl) h1
  subst r_hl
  refine ((lawEqInts l_ao r_ao l_cap r_cap l r W hlb hrb hl hr)).mono fun e W' hend => ?_
  obtain ⟨he, hb⟩ := hend
  subst he
  refine ⟨_, rfl, law_post laidOut hb hW' (by kernel_rfl) (by kernel_rfl) (by kernel_rfl) Tryz.underlying4 ?_⟩
  match gs, hgl with
  | [g1, g2, g3, g4, g5, g6, g7], _ => rfl
theorem EqInts_row : Rows.FnEqIntSlicesIsElementwiseSaid :=
  OpenClaim.holds_of_wide 5 Tryz.f5 rfl rfl rfl rfl rfl rfl rfl ⟨rfl, rfl, rfl, rfl, rfl⟩ rfl rfl rfl rfl rfl (by kernel_rfl) Tryz.func5 EqInts_closed
    (of_decide_eq_true (by kernel_rfl)) (by unfold Func.isWrapper; rw [if_neg (of_decide_eq_false (by kernel_rfl))]; exact ⟨rfl, rfl⟩)
    (fun os started H enc _ => EqInts_lifted os started H enc)
theorem EqInts_holds : Rows.FnEqIntSlicesIsElementwiseCardSaid :=
  Claim7.holds_tied_plain_at .later [] [.data, .data, .widerDeep, .widerDeep, .data, .data, .data, .data, .data, .sentinel, .sentinel, .sentinel, .sentinel, .sentinel, .data, .data, .data, .data, .data, .pinned, .pinned] true (true, "6b1f54791ff78ebef827c5b9c33744e4d3e1191598e5d4386417fd9bd9b0b27b") true
    EqInts_row (fun _ h => by cases h) EqInts_byText (fun _ h => by cases h) fnEqIntSlicesIsElementwise_row_tie rfl ⟨rfl, rfl⟩ seat_main rfl
    (fun f fn hf hfn => by
      obtain rfl : f = 5 := Option.some.inj (EqInts_named.symm.trans hf) |>.symm
      obtain rfl : fn = Tryz.f5 := (Option.some.inj (Tryz.func5.symm.trans hfn)).symm
      exact ⟨seat_looks, fun j t ht => by
        rw [Tryz.params5] at ht
        have hm : t ∈ [28] := by have := Array.mem_of_getElem? ht; simp at this; simp [this]
        exact (show Tryz.prog.wantsStandIn t = false by simpa using List.all_eq_true.1 EqInts_stand t hm)⟩)
    EqInts_goes
#print axioms EqInts_holds
end Go.Proofs.YtdklmpgjpnjdmaaGreatDoor
