/- For every two floats the call of the law returns true and leaves all that was there as it was. Conditions: none on the arguments; the package-level variables that the row lists hold what the program text lays in them. -/
import Derived.Test.YtnlngodbjkefhaaGreatDoorRows
import Derived.Test.YtnlngodbjkefhaaGreatDoorCards
import Derived.Test.YtnlngodbjkefhaaGreatDoorTie
import Derived.Test.YtnlngodbjkefhaaGreatDoorPost
import Derived.Test.YtnlngodbjkefhaaGreatDoorCModFl
import Derived.Test.YtnlngodbjkefhaaGreatDoorSeat
import Derived.Test.YtnlngodbjkefhaaGreatDoorModFl
import Derived.SevenTiedAt
import Derived.Laws.Cover2
namespace Go.Proofs.YtnlngodbjkefhaaGreatDoor
open Go.ChangeShapes Go.WideShapes Go.ChangeAt Go.RowKit Go.WideMaps Go.WideElems Go
open Go.ChangeMaps (open_string shut_string)
theorem ModFl_goes : false = Rows.fnModFloatsAgreesWithIntsRow.goesBy Tryz.pinned.checked.prog := by kernel_rfl
theorem ModFl_named : Tryz.prog.funcNamed "github.com/itchyny/gojq/n001_79.FnModFloatsAgreesWithInts" = some 4 := by kernel_rfl
theorem ModFl_stand : ([22].all fun u => !Tryz.prog.wantsStandIn u) = true := by kernel_rfl
set_option maxRecDepth 100000 in
theorem ModFl_lifted (os : Os) (started : os.Started) (H : Type) (enc : TypeId × Value → H) :
    ReturnsInHanded {} Tryz.checked os 4 .any (fun w args => (Rows.fnModFloatsAgreesWithIntsSpec.pre enc Tryz.prog Tryz.f4 [] false w args ∧ laidMetH Tryz.prog seatLaid0 w) ∧ sizedMet enc Tryz.prog Tryz.f4 (OpenSpec.ofChange Rows.fnModFloatsAgreesWithIntsSpec) false w args)
      (Rows.fnModFloatsAgreesWithIntsSpec.post enc Tryz.prog Tryz.f4 false true false false) := by
  refine returnsInHanded_of_change_and (C := Tryz.checked) (X := fun w _ => laidMetH Tryz.prog seatLaid0 w) (fun _ _ _ hh h => h.of_heap hh) own started (by kernel_rfl) Tryz.func4
    (ChangeSpec.witness_shaped (enc := enc) (C := Tryz.checked) (os := os) (X := fun w _ => laidMetH Tryz.prog seatLaid0 w) false (World.laidAll Tryz.prog os seatLaid0) #[.float .f64 0, .float .f64 0] 8 (World.laidAll_os _ _ _)
      (wit_shaped0 os _) (ModFl_ok os) (ModFl_pre os H enc) (ModFl_sz os H enc) (wit_laid0 os _)) ?_
  intro W base args ds gs before hval0 hW _ hsz0 hL _
  have hval : ∀ (j : Nat) t v, Tryz.f4.params[j]? = some t → args[j]? = some v → Value.okWide Tryz.prog W .any base t v := hval0
  have hW' := hW
  obtain ⟨p, q, hA0, hV, rfl, _, _⟩ := hW
  have hA : DataW.TrodAll enc Tryz.prog W 0 (fun _ => true) true Tryz.f4.params.toList args.toList ds p := hA0
  have hgl : gs.length = 7 := trodVars_length hV
  rw [Tryz.params4] at hA hval
  obtain ⟨argl⟩ := args
  have hA' : DataW.TrodAll enc Tryz.prog W 0 (fun _ => true) true [22, 22] argl ds p := hA
  obtain ⟨v0, vs0, d0, ds0, p0, q0, rfl, rfl, rfl, h0, r0⟩ := trodAll_cons hA'
  obtain ⟨v1, vs1, d1, ds1, p1, q1, rfl, rfl, rfl, h1, r1⟩ := trodAll_cons r0
  obtain ⟨rfl, rfl, rfl⟩ := trodAll_nil r1
  obtain ⟨x, rfl, rfl, rfl, hx⟩ := open_float Tryz.underlying22 (hval 0 22 v0 rfl rfl) h0
  obtain ⟨y, rfl, rfl, rfl, hy⟩ := open_float Tryz.underlying22 (hval 1 22 v1 rfl rfl) h1
  refine ((lawModFloats x y (float_lt hx) (float_lt hy) W)).mono fun e W' hend => ?_
  obtain ⟨he, hb⟩ := hend
  subst he
  refine ⟨_, rfl, law_post laidOut hb hW' (by kernel_rfl) (by kernel_rfl) (by kernel_rfl) Tryz.underlying4 ?_⟩
  match gs, hgl with
  | [g1, g2, g3, g4, g5, g6, g7], _ => rfl
theorem ModFl_row : Rows.FnModFloatsAgreesWithIntsSaid :=
  OpenClaim.holds_of_wide 4 Tryz.f4 rfl rfl rfl rfl rfl rfl rfl ⟨rfl, rfl, rfl, rfl, rfl⟩ rfl rfl rfl rfl rfl (by kernel_rfl) Tryz.func4 ModFl_closed
    (of_decide_eq_true (by kernel_rfl)) (by unfold Func.isWrapper; rw [if_neg (of_decide_eq_false (by kernel_rfl))]; exact ⟨rfl, rfl⟩)
    (fun os started H enc _ => ModFl_lifted os started H enc)
theorem ModFl_holds : Rows.FnModFloatsAgreesWithIntsCardSaid :=
  Claim7.holds_tied_plain_at .later [] [.data, .data, .widerDeep, .widerDeep, .data, .data, .data, .data, .data, .sentinel, .sentinel, .sentinel, .sentinel, .sentinel, .data, .data, .data, .data, .data, .pinned, .pinned] true (true, "e9408a49ac58ccf36d7d7876e7848237101372a7c682d7e6e2be45c8741efcd9") true
    ModFl_row (fun _ h => by cases h) ModFl_byText (fun _ h => by cases h) fnModFloatsAgreesWithInts_row_tie rfl ⟨rfl, rfl⟩ seat_main rfl
    (fun f fn hf hfn => by
      obtain rfl : f = 4 := Option.some.inj (ModFl_named.symm.trans hf) |>.symm
      obtain rfl : fn = Tryz.f4 := (Option.some.inj (Tryz.func4.symm.trans hfn)).symm
      exact ⟨seat_looks, fun j t ht => by
        rw [Tryz.params4] at ht
        have hm : t ∈ [22] := by have := Array.mem_of_getElem? ht; simp at this; simp [this]
        exact (show Tryz.prog.wantsStandIn t = false by simpa using List.all_eq_true.1 ModFl_stand t hm)⟩)
    ModFl_goes
#print axioms ModFl_holds
end Go.Proofs.YtnlngodbjkefhaaGreatDoor
