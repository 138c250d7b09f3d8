/- For every two strings the call of the law returns true and leaves all that was there as it was. Conditions: none on the arguments; the package-level variables that the row lists hold what the program text lays in them. -/
import Derived.Test.YtdklmpgjpnjdmaaGreatDoorRows
import Derived.Test.YtdklmpgjpnjdmaaGreatDoorCards
import Derived.Test.YtdklmpgjpnjdmaaGreatDoorTie
import Derived.Test.YtdklmpgjpnjdmaaGreatDoorPost
import Derived.Test.YtdklmpgjpnjdmaaGreatDoorCEqStr
import Derived.Test.YtdklmpgjpnjdmaaGreatDoorSeat
import Derived.Test.YtdklmpgjpnjdmaaGreatDoorLawS
import Derived.SevenTiedAt
import Derived.Laws.Cover2
namespace Go.Proofs.YtdklmpgjpnjdmaaGreatDoor
open Go.ChangeShapes Go.WideShapes Go.ChangeAt Go.RowKit Go.WideMaps Go.WideElems Go
open Go.ChangeMaps (open_string shut_string)
theorem EqStr_goes : false = Rows.fnEqStringsIsByteEqualityRow.goesBy Tryz.pinned.checked.prog := by kernel_rfl
theorem EqStr_named : Tryz.prog.funcNamed "github.com/itchyny/gojq/n001_81.FnEqStringsIsByteEquality" = some 4 := by kernel_rfl
theorem EqStr_stand : ([9].all fun u => !Tryz.prog.wantsStandIn u) = true := by kernel_rfl
set_option maxRecDepth 100000 in
theorem EqStr_lifted (os : Os) (started : os.Started) (H : Type) (enc : TypeId × Value → H) :
    ReturnsInHanded {} Tryz.checked os 4 .any (fun w args => (Rows.fnEqStringsIsByteEqualitySpec.pre enc Tryz.prog Tryz.f4 [] false w args ∧ laidMetH Tryz.prog seatLaid0 w) ∧ sizedMet enc Tryz.prog Tryz.f4 (OpenSpec.ofChange Rows.fnEqStringsIsByteEqualitySpec) false w args)
      (Rows.fnEqStringsIsByteEqualitySpec.post enc Tryz.prog Tryz.f4 false true false false) := by
  refine returnsInHanded_of_change_and (C := Tryz.checked) (X := fun w _ => laidMetH Tryz.prog seatLaid0 w) (fun _ _ _ hh h => h.of_heap hh) own started (by kernel_rfl) Tryz.func4
    (ChangeSpec.witness_shaped (enc := enc) (C := Tryz.checked) (os := os) (X := fun w _ => laidMetH Tryz.prog seatLaid0 w) false (World.laidAll Tryz.prog os seatLaid0) #[.string ByteArray.empty, .string ByteArray.empty] 8 (World.laidAll_os _ _ _)
      (wit_shaped0 os _) (EqStr_ok os) (EqStr_pre os H enc) (EqStr_sz os H enc) (wit_laid0 os _)) ?_
  intro W base args ds gs before hval0 hW _ hsz0 hL _
  have hval : ∀ (j : Nat) t v, Tryz.f4.params[j]? = some t → args[j]? = some v → Value.okWide Tryz.prog W .any base t v := hval0
  have hW' := hW
  obtain ⟨p, q, hA0, hV, rfl, _, _⟩ := hW
  have hA : DataW.TrodAll enc Tryz.prog W 0 (fun _ => true) true Tryz.f4.params.toList args.toList ds p := hA0
  have hgl : gs.length = 7 := trodVars_length hV
  rw [Tryz.params4] at hA hval
  obtain ⟨argl⟩ := args
  have hA' : DataW.TrodAll enc Tryz.prog W 0 (fun _ => true) true [9, 9] argl ds p := hA
  obtain ⟨v0, vs0, d0, ds0, p0, q0, rfl, rfl, rfl, h0, r0⟩ := trodAll_cons hA'
  obtain ⟨v1, vs1, d1, ds1, p1, q1, rfl, rfl, rfl, h1, r1⟩ := trodAll_cons r0
  obtain ⟨rfl, rfl, rfl⟩ := trodAll_nil r1
  obtain ⟨a, rfl, rfl, rfl, ha⟩ := open_string Tryz.underlying9 (hval 0 9 v0 rfl rfl) h0
  unfold maxLen at ha
  obtain ⟨b, rfl, rfl, rfl, hb⟩ := open_string Tryz.underlying9 (hval 1 9 v1 rfl rfl) h1
  unfold maxLen at hb
  refine ((lawEqStrings a b ha hb W).mono (fun _ _ h => retD_below h)).mono fun e W' hend => ?_
  obtain ⟨he, hb⟩ := hend
  subst he
  refine ⟨_, rfl, law_post laidOut hb hW' (by kernel_rfl) (by kernel_rfl) (by kernel_rfl) Tryz.underlying4 ?_⟩
  match gs, hgl with
  | [g1, g2, g3, g4, g5, g6, g7], _ => rfl
theorem EqStr_row : Rows.FnEqStringsIsByteEqualitySaid :=
  OpenClaim.holds_of_wide 4 Tryz.f4 rfl rfl rfl rfl rfl rfl rfl ⟨rfl, rfl, rfl, rfl, rfl⟩ rfl rfl rfl rfl rfl (by kernel_rfl) Tryz.func4 EqStr_closed
    (of_decide_eq_true (by kernel_rfl)) (by unfold Func.isWrapper; rw [if_neg (of_decide_eq_false (by kernel_rfl))]; exact ⟨rfl, rfl⟩)
    (fun os started H enc _ => EqStr_lifted os started H enc)
theorem EqStr_holds : Rows.FnEqStringsIsByteEqualityCardSaid :=
  Claim7.holds_tied_plain_at .later [] [.data, .data, .widerDeep, .widerDeep, .data, .data, .data, .data, .data, .sentinel, .sentinel, .sentinel, .sentinel, .sentinel, .data, .data, .data, .data, .data, .pinned, .pinned] true (true, "6b1f54791ff78ebef827c5b9c33744e4d3e1191598e5d4386417fd9bd9b0b27b") true
    EqStr_row (fun _ h => by cases h) EqStr_byText (fun _ h => by cases h) fnEqStringsIsByteEquality_row_tie rfl ⟨rfl, rfl⟩ seat_main rfl
    (fun f fn hf hfn => by
      obtain rfl : f = 4 := Option.some.inj (EqStr_named.symm.trans hf) |>.symm
      obtain rfl : fn = Tryz.f4 := (Option.some.inj (Tryz.func4.symm.trans hfn)).symm
      exact ⟨seat_looks, fun j t ht => by
        rw [Tryz.params4] at ht
        have hm : t ∈ [9] := by have := Array.mem_of_getElem? ht; simp at this; simp [this]
        exact (show Tryz.prog.wantsStandIn t = false by simpa using List.all_eq_true.1 EqStr_stand t hm)⟩)
    EqStr_goes
#print axioms EqStr_holds
end Go.Proofs.YtdklmpgjpnjdmaaGreatDoor
