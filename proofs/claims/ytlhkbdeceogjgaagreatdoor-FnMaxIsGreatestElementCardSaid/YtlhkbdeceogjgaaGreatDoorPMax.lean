/- For every slice of ints the call of the law returns true and leaves all that was there as it was. Conditions: none on the arguments; the package-level variables that the row lists hold what the program text lays in them. -/
import Derived.Test.YtlhkbdeceogjgaaGreatDoorRows
import Derived.Test.YtlhkbdeceogjgaaGreatDoorCards
import Derived.Test.YtlhkbdeceogjgaaGreatDoorTie
import Derived.Test.YtlhkbdeceogjgaaGreatDoorPost
import Derived.Test.YtlhkbdeceogjgaaGreatDoorCMax
import Derived.Test.YtlhkbdeceogjgaaGreatDoorSeat
import Derived.Test.YtlhkbdeceogjgaaGreatDoorLawM
import Derived.SevenTiedAt
import Derived.Laws.Cover2
namespace Go.Proofs.YtlhkbdeceogjgaaGreatDoor
open Go.ChangeShapes Go.WideShapes Go.ChangeAt Go.RowKit Go.WideMaps Go.WideElems Go
open Go.ChangeMaps (open_string shut_string)
theorem Max_goes : false = Rows.fnMaxIsGreatestElementRow.goesBy Tryz.pinned.checked.prog := by kernel_rfl
theorem Max_named : Tryz.prog.funcNamed "github.com/itchyny/gojq/n001_67.FnMaxIsGreatestElement" = some 11 := by kernel_rfl
theorem Max_stand : ([34].all fun u => !Tryz.prog.wantsStandIn u) = true := by kernel_rfl
set_option maxRecDepth 100000 in
theorem Max_lifted (os : Os) (started : os.Started) (H : Type) (enc : TypeId × Value → H) :
    ReturnsInHanded {} Tryz.checked os 11 .any (fun w args => (Rows.fnMaxIsGreatestElementSpec.pre enc Tryz.prog Tryz.f11 [] false w args ∧ laidMetH Tryz.prog seatLaid1 w) ∧ sizedMet enc Tryz.prog Tryz.f11 (OpenSpec.ofChange Rows.fnMaxIsGreatestElementSpec) false w args)
      (Rows.fnMaxIsGreatestElementSpec.post enc Tryz.prog Tryz.f11 false true false false) := by
  refine returnsInHanded_of_change_and (C := Tryz.checked) (X := fun w _ => laidMetH Tryz.prog seatLaid1 w) (fun _ _ _ hh h => h.of_heap hh) own started (by kernel_rfl) Tryz.func11
    (ChangeSpec.witness_shaped (enc := enc) (C := Tryz.checked) (os := os) (X := fun w _ => laidMetH Tryz.prog seatLaid1 w) false (World.laidAll Tryz.prog os seatLaid1) #[.slice none 0 0] 8 (World.laidAll_os _ _ _)
      (wit_shaped1 os _) (Max_ok os) (Max_pre os H enc) (Max_sz os H enc) (wit_laid1 os _)) ?_
  intro W base args ds gs before hval0 hW _ hsz0 hL _
  have hval : ∀ (j : Nat) t v, Tryz.f11.params[j]? = some t → args[j]? = some v → Value.okWide Tryz.prog W .any base t v := hval0
  have hW' := hW
  obtain ⟨p, q, hA0, hV, rfl, _, _⟩ := hW
  have hA : DataW.TrodAll enc Tryz.prog W 0 (fun _ => true) true Tryz.f11.params.toList args.toList ds p := hA0
  have hgl : gs.length = 7 := trodVars_length hV
  rw [Tryz.params11] at hA hval
  obtain ⟨argl⟩ := args
  have hA' : DataW.TrodAll enc Tryz.prog W 0 (fun _ => true) true [34] argl ds p := hA
  obtain ⟨v0, vs0, d0, ds0, p0, q0, rfl, rfl, rfl, h0, r0⟩ := trodAll_cons hA'
  obtain ⟨rfl, rfl, rfl⟩ := trodAll_nil r0
  obtain ⟨v_ao, v_len, v_cap, v, rfl, v_hl, hv, hvb, hvr⟩ := ints_opened (enc := enc) (hval 0 34 v0 rfl rfl) h0
  subst v_hl
  refine ((lawMax v_ao v_cap v W hvb hv)).mono fun e W' hend => ?_
  obtain ⟨he, hb⟩ := hend
  subst he
  refine ⟨_, rfl, law_post laidOut hb hW' (by kernel_rfl) (by kernel_rfl) (by kernel_rfl) Tryz.underlying4 ?_⟩
  match gs, hgl with
  | [g1, g2, g3, g4, g5, g6, g7], _ => rfl
theorem Max_row : Rows.FnMaxIsGreatestElementSaid :=
  OpenClaim.holds_of_wide 11 Tryz.f11 rfl rfl rfl rfl rfl rfl rfl ⟨rfl, rfl, rfl, rfl, rfl⟩ rfl rfl rfl rfl rfl (by kernel_rfl) Tryz.func11 Max_closed
    (of_decide_eq_true (by kernel_rfl)) (by unfold Func.isWrapper; rw [if_neg (of_decide_eq_false (by kernel_rfl))]; exact ⟨rfl, rfl⟩)
    (fun os started H enc _ => Max_lifted os started H enc)
theorem Max_holds : Rows.FnMaxIsGreatestElementCardSaid :=
  Claim7.holds_tied_plain_at .later [] [.data, .data, .widerDeep, .widerDeep, .data, .data, .data, .data, .data, .sentinel, .sentinel, .sentinel, .sentinel, .sentinel, .data, .data, .data, .data, .data, .pinned, .pinned] true (true, "0fcad0a1c0757c4753e01c2a5aa4959e64b5773d8626cd3e889d8590a9fc62fc") true
    Max_row (fun _ h => by cases h) Max_byText (fun _ h => by cases h) fnMaxIsGreatestElement_row_tie rfl ⟨rfl, rfl⟩ seat_main rfl
    (fun f fn hf hfn => by
      obtain rfl : f = 11 := Option.some.inj (Max_named.symm.trans hf) |>.symm
      obtain rfl : fn = Tryz.f11 := (Option.some.inj (Tryz.func11.symm.trans hfn)).symm
      exact ⟨seat_looks, fun j t ht => by
        rw [Tryz.params11] at ht
        have hm : t ∈ [34] := by have := Array.mem_of_getElem? ht; simp at this; simp [this]
        exact (show Tryz.prog.wantsStandIn t = false by simpa using List.all_eq_true.1 Max_stand t hm)⟩)
    Max_goes
#print axioms Max_holds
end Go.Proofs.YtlhkbdeceogjgaaGreatDoor
