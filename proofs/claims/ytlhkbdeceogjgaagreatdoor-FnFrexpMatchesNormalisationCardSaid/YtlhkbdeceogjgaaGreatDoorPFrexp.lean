/- For every float the call of the law returns true and leaves all that was there as it was. Conditions: none on the arguments; the package-level variables that the row lists hold what the program text lays in them. -/
import Derived.Test.YtlhkbdeceogjgaaGreatDoorRows
import Derived.Test.YtlhkbdeceogjgaaGreatDoorCards
import Derived.Test.YtlhkbdeceogjgaaGreatDoorTie
import Derived.Test.YtlhkbdeceogjgaaGreatDoorPost
import Derived.Test.YtlhkbdeceogjgaaGreatDoorCFrexp
import Derived.Test.YtlhkbdeceogjgaaGreatDoorSeat
import Derived.Test.YtlhkbdeceogjgaaGreatDoorFrexp
import Derived.SevenTiedAt
import Derived.Laws.Cover2
namespace Go.Proofs.YtlhkbdeceogjgaaGreatDoor
open Go.ChangeShapes Go.WideShapes Go.ChangeAt Go.RowKit Go.WideMaps Go.WideElems Go
open Go.ChangeMaps (open_string shut_string)
theorem Frexp_goes : false = Rows.fnFrexpMatchesNormalisationRow.goesBy Tryz.pinned.checked.prog := by kernel_rfl
theorem Frexp_named : Tryz.prog.funcNamed "github.com/itchyny/gojq/n001_88.FnFrexpMatchesNormalisation" = some 3 := by kernel_rfl
theorem Frexp_stand : ([22].all fun u => !Tryz.prog.wantsStandIn u) = true := by kernel_rfl
set_option maxRecDepth 100000 in
theorem Frexp_lifted (os : Os) (started : os.Started) (H : Type) (enc : TypeId × Value → H) :
    ReturnsInHanded {} Tryz.checked os 3 .any (fun w args => (Rows.fnFrexpMatchesNormalisationSpec.pre enc Tryz.prog Tryz.f3 [] false w args ∧ laidMetH Tryz.prog seatLaid0 w) ∧ sizedMet enc Tryz.prog Tryz.f3 (OpenSpec.ofChange Rows.fnFrexpMatchesNormalisationSpec) false w args)
      (Rows.fnFrexpMatchesNormalisationSpec.post enc Tryz.prog Tryz.f3 false true false false) := by
  refine returnsInHanded_of_change_and (C := Tryz.checked) (X := fun w _ => laidMetH Tryz.prog seatLaid0 w) (fun _ _ _ hh h => h.of_heap hh) own started (by kernel_rfl) Tryz.func3
    (ChangeSpec.witness_shaped (enc := enc) (C := Tryz.checked) (os := os) (X := fun w _ => laidMetH Tryz.prog seatLaid0 w) false (World.laidAll Tryz.prog os seatLaid0) #[.float .f64 0] 8 (World.laidAll_os _ _ _)
      (wit_shaped0 os _) (Frexp_ok os) (Frexp_pre os H enc) (Frexp_sz os H enc) (wit_laid0 os _)) ?_
  intro W base args ds gs before hval0 hW _ hsz0 hL _
  have hval : ∀ (j : Nat) t v, Tryz.f3.params[j]? = some t → args[j]? = some v → Value.okWide Tryz.prog W .any base t v := hval0
  have hW' := hW
  obtain ⟨p, q, hA0, hV, rfl, _, _⟩ := hW
  have hA : DataW.TrodAll enc Tryz.prog W 0 (fun _ => true) true Tryz.f3.params.toList args.toList ds p := hA0
  have hgl : gs.length = 5 := trodVars_length hV
  rw [Tryz.params3] at hA hval
  obtain ⟨argl⟩ := args
  have hA' : DataW.TrodAll enc Tryz.prog W 0 (fun _ => true) true [22] argl ds p := hA
  obtain ⟨v0, vs0, d0, ds0, p0, q0, rfl, rfl, rfl, h0, r0⟩ := trodAll_cons hA'
  obtain ⟨rfl, rfl, rfl⟩ := trodAll_nil r0
  obtain ⟨x, rfl, rfl, rfl, hx⟩ := open_float Tryz.underlying22 (hval 0 22 v0 rfl rfl) h0
  refine ((lawFrexp x (float_lt hx) W)).mono fun e W' hend => ?_
  obtain ⟨he, hb⟩ := hend
  subst he
  refine ⟨_, rfl, law_post laidOut hb hW' (by kernel_rfl) (by kernel_rfl) (by kernel_rfl) Tryz.underlying4 ?_⟩
  match gs, hgl with
  | [g1, g2, g3, g4, g5], _ => rfl
theorem Frexp_row : Rows.FnFrexpMatchesNormalisationSaid :=
  OpenClaim.holds_of_wide 3 Tryz.f3 rfl rfl rfl rfl rfl rfl rfl ⟨rfl, rfl, rfl, rfl, rfl⟩ rfl rfl rfl rfl rfl (by kernel_rfl) Tryz.func3 Frexp_closed
    (of_decide_eq_true (by kernel_rfl)) (by unfold Func.isWrapper; rw [if_neg (of_decide_eq_false (by kernel_rfl))]; exact ⟨rfl, rfl⟩)
    (fun os started H enc _ => Frexp_lifted os started H enc)
theorem Frexp_holds : Rows.FnFrexpMatchesNormalisationCardSaid :=
  Claim7.holds_tied_plain_at .later [] [.data, .data, .widerDeep, .widerDeep, .data, .data, .data, .data, .data, .sentinel, .sentinel, .data, .data, .data, .data, .data, .pinned, .pinned] true (true, "0fcad0a1c0757c4753e01c2a5aa4959e64b5773d8626cd3e889d8590a9fc62fc") true
    Frexp_row (fun _ h => by cases h) Frexp_byText (fun _ h => by cases h) fnFrexpMatchesNormalisation_row_tie rfl ⟨rfl, rfl⟩ seat_main rfl
    (fun f fn hf hfn => by
      obtain rfl : f = 3 := Option.some.inj (Frexp_named.symm.trans hf) |>.symm
      obtain rfl : fn = Tryz.f3 := (Option.some.inj (Tryz.func3.symm.trans hfn)).symm
      exact ⟨seat_looks, fun j t ht => by
        rw [Tryz.params3] at ht
        have hm : t ∈ [22] := by have := Array.mem_of_getElem? ht; simp at this; simp [this]
        exact (show Tryz.prog.wantsStandIn t = false by simpa using List.all_eq_true.1 Frexp_stand t hm)⟩)
    Frexp_goes
#print axioms Frexp_holds
end Go.Proofs.YtlhkbdeceogjgaaGreatDoor
