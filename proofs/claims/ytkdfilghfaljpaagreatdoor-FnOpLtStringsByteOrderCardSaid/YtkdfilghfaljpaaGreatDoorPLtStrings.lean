/- For every two strings the call of the law returns true and leaves all that was there as it was. Conditions: none on the arguments; the package-level variables that the row lists hold what the program text lays in them. -/
import Derived.Test.YtkdfilghfaljpaaGreatDoorRows
import Derived.Test.YtkdfilghfaljpaaGreatDoorCards
import Derived.Test.YtkdfilghfaljpaaGreatDoorTie
import Derived.Test.YtkdfilghfaljpaaGreatDoorPost
import Derived.Test.YtkdfilghfaljpaaGreatDoorCLtStrings
import Derived.Test.YtkdfilghfaljpaaGreatDoorSeat
import Derived.Test.YtkdfilghfaljpaaGreatDoorLawS
import Derived.SevenTiedAt
import Derived.Laws.Cover2
namespace Go.Proofs.YtkdfilghfaljpaaGreatDoor
open Go.ChangeShapes Go.WideShapes Go.ChangeAt Go.RowKit Go.WideMaps Go.WideElems Go
open Go.ChangeMaps (open_string shut_string)
theorem LtStrings_goes : false = Rows.fnOpLtStringsByteOrderRow.goesBy Tryz.pinned.checked.prog := by kernel_rfl
theorem LtStrings_named : Tryz.prog.funcNamed "github.com/itchyny/gojq/n001_92.FnOpLtStringsByteOrder" = some 8 := by kernel_rfl
theorem LtStrings_stand : ([9].all fun u => !Tryz.prog.wantsStandIn u) = true := by kernel_rfl
set_option maxRecDepth 100000 in
theorem LtStrings_lifted (os : Os) (started : os.Started) (H : Type) (enc : TypeId × Value → H) :
    ReturnsInHanded {} Tryz.checked os 8 .any (fun w args => (Rows.fnOpLtStringsByteOrderSpec.pre enc Tryz.prog Tryz.f8 [] false w args ∧ laidMetH Tryz.prog seatLaid0 w) ∧ sizedMet enc Tryz.prog Tryz.f8 (OpenSpec.ofChange Rows.fnOpLtStringsByteOrderSpec) false w args)
      (Rows.fnOpLtStringsByteOrderSpec.post enc Tryz.prog Tryz.f8 false true false false) := by
  refine returnsInHanded_of_change_and (C := Tryz.checked) (X := fun w _ => laidMetH Tryz.prog seatLaid0 w) (fun _ _ _ hh h => h.of_heap hh) own started (by kernel_rfl) Tryz.func8
    (ChangeSpec.witness_shaped (enc := enc) (C := Tryz.checked) (os := os) (X := fun w _ => laidMetH Tryz.prog seatLaid0 w) false (World.laidAll Tryz.prog os seatLaid0) #[.string ByteArray.empty, .string ByteArray.empty] 8 (World.laidAll_os _ _ _)
      (wit_shaped0 os _) (LtStrings_ok os) (LtStrings_pre os H enc) (LtStrings_sz os H enc) (wit_laid0 os _)) ?_
  intro W base args ds gs before hval0 hW _ hsz0 hL _
  have hval : ∀ (j : Nat) t v, Tryz.f8.params[j]? = some t → args[j]? = some v → Value.okWide Tryz.prog W .any base t v := hval0
  have hW' := hW
  obtain ⟨p, q, hA0, hV, rfl, _, _⟩ := hW
  have hA : DataW.TrodAll enc Tryz.prog W 0 (fun _ => true) true Tryz.f8.params.toList args.toList ds p := hA0
  have hgl : gs.length = 7 := trodVars_length hV
  rw [Tryz.params8] at hA hval
  obtain ⟨argl⟩ := args
  have hA' : DataW.TrodAll enc Tryz.prog W 0 (fun _ => true) true [9, 9] argl ds p := hA
  obtain ⟨v0, vs0, d0, ds0, p0, q0, rfl, rfl, rfl, h0, r0⟩ := trodAll_cons hA'
  obtain ⟨v1, vs1, d1, ds1, p1, q1, rfl, rfl, rfl, h1, r1⟩ := trodAll_cons r0
  obtain ⟨rfl, rfl, rfl⟩ := trodAll_nil r1
  obtain ⟨a, rfl, rfl, rfl, ha⟩ := open_string Tryz.underlying9 (hval 0 9 v0 rfl rfl) h0
  unfold maxLen at ha
  obtain ⟨b, rfl, rfl, rfl, hb⟩ := open_string Tryz.underlying9 (hval 1 9 v1 rfl rfl) h1
  unfold maxLen at hb
  refine ((lawLtStrings a b ha hb W).mono (fun _ _ h => retD_below h)).mono fun e W' hend => ?_
  obtain ⟨he, hb⟩ := hend
  subst he
  refine ⟨_, rfl, law_post laidOut hb hW' (by kernel_rfl) (by kernel_rfl) (by kernel_rfl) Tryz.underlying4 ?_⟩
  match gs, hgl with
  | [g1, g2, g3, g4, g5, g6, g7], _ => rfl
theorem LtStrings_row : Rows.FnOpLtStringsByteOrderSaid :=
  OpenClaim.holds_of_wide 8 Tryz.f8 rfl rfl rfl rfl rfl rfl rfl ⟨rfl, rfl, rfl, rfl, rfl⟩ rfl rfl rfl rfl rfl (by kernel_rfl) Tryz.func8 LtStrings_closed
    (of_decide_eq_true (by kernel_rfl)) (by unfold Func.isWrapper; rw [if_neg (of_decide_eq_false (by kernel_rfl))]; exact ⟨rfl, rfl⟩)
    (fun os started H enc _ => LtStrings_lifted os started H enc)
theorem LtStrings_holds : Rows.FnOpLtStringsByteOrderCardSaid :=
  Claim7.holds_tied_plain_at .later [] [.data, .data, .widerDeep, .widerDeep, .data, .data, .data, .data, .data, .sentinel, .sentinel, .sentinel, .sentinel, .sentinel, .data, .data, .data, .data, .data, .pinned, .pinned] true (true, "29beccc09cf4234acef9b423efc07437bbe2560f288713770bc80df1df383c30") true
    LtStrings_row (fun _ h => by cases h) LtStrings_byText (fun _ h => by cases h) fnOpLtStringsByteOrder_row_tie rfl ⟨rfl, rfl⟩ seat_main rfl
    (fun f fn hf hfn => by
      obtain rfl : f = 8 := Option.some.inj (LtStrings_named.symm.trans hf) |>.symm
      obtain rfl : fn = Tryz.f8 := (Option.some.inj (Tryz.func8.symm.trans hfn)).symm
      exact ⟨seat_looks, fun j t ht => by
        rw [Tryz.params8] at ht
        have hm : t ∈ [9] := by have := Array.mem_of_getElem? ht; simp at this; simp [this]
        exact (show Tryz.prog.wantsStandIn t = false by simpa using List.all_eq_true.1 LtStrings_stand t hm)⟩)
    LtStrings_goes
#print axioms LtStrings_holds
end Go.Proofs.YtkdfilghfaljpaaGreatDoor
