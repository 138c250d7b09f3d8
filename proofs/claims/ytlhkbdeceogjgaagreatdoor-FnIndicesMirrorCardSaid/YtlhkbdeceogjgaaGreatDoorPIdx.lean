/- For every two slices of ints the call of the law returns true and leaves all that was there as it was. Conditions: none on the arguments; the package-level variables that the row lists hold what the program text lays in them. -/
import Derived.Test.YtlhkbdeceogjgaaGreatDoorRows
import Derived.Test.YtlhkbdeceogjgaaGreatDoorCards
import Derived.Test.YtlhkbdeceogjgaaGreatDoorTie
import Derived.Test.YtlhkbdeceogjgaaGreatDoorPost
import Derived.Test.YtlhkbdeceogjgaaGreatDoorCIdx
import Derived.Test.YtlhkbdeceogjgaaGreatDoorSeat
import Derived.Test.YtlhkbdeceogjgaaGreatDoorLawIdx
import Derived.SevenTiedAt
import Derived.Laws.Cover2
namespace Go.Proofs.YtlhkbdeceogjgaaGreatDoor
open Go.ChangeShapes Go.WideShapes Go.ChangeAt Go.RowKit Go.WideMaps Go.WideElems Go
open Go.ChangeMaps (open_string shut_string)
theorem Idx_goes : false = Rows.fnIndicesMirrorRow.goesBy Tryz.pinned.checked.prog := by kernel_rfl
theorem Idx_named : Tryz.prog.funcNamed "github.com/itchyny/gojq/n001_9.FnIndicesMirror" = some 6 := by kernel_rfl
theorem Idx_stand : ([34].all fun u => !Tryz.prog.wantsStandIn u) = true := by kernel_rfl
set_option maxRecDepth 100000 in
theorem Idx_lifted (os : Os) (started : os.Started) (H : Type) (enc : TypeId × Value → H) :
    ReturnsInHanded {} Tryz.checked os 6 .any (fun w args => (Rows.fnIndicesMirrorSpec.pre enc Tryz.prog Tryz.f6 [] false w args ∧ laidMetH Tryz.prog seatLaid1 w) ∧ sizedMet enc Tryz.prog Tryz.f6 (OpenSpec.ofChange Rows.fnIndicesMirrorSpec) false w args)
      (Rows.fnIndicesMirrorSpec.post enc Tryz.prog Tryz.f6 false true false false) := by
  refine returnsInHanded_of_change_and (C := Tryz.checked) (X := fun w _ => laidMetH Tryz.prog seatLaid1 w) (fun _ _ _ hh h => h.of_heap hh) own started (by kernel_rfl) Tryz.func6
    (ChangeSpec.witness_shaped (enc := enc) (C := Tryz.checked) (os := os) (X := fun w _ => laidMetH Tryz.prog seatLaid1 w) false (World.laidAll Tryz.prog os seatLaid1) #[.slice none 0 0, .slice none 0 0] 8 (World.laidAll_os _ _ _)
      (wit_shaped1 os _) (Idx_ok os) (Idx_pre os H enc) (Idx_sz os H enc) (wit_laid1 os _)) ?_
  intro W base args ds gs before hval0 hW _ hsz0 hL _
  have hval : ∀ (j : Nat) t v, Tryz.f6.params[j]? = some t → args[j]? = some v → Value.okWide Tryz.prog W .any base t v := hval0
  have hW' := hW
  obtain ⟨p, q, hA0, hV, rfl, _, _⟩ := hW
  have hA : DataW.TrodAll enc Tryz.prog W 0 (fun _ => true) true Tryz.f6.params.toList args.toList ds p := hA0
  have hgl : gs.length = 7 := trodVars_length hV
  rw [Tryz.params6] at hA hval
  obtain ⟨argl⟩ := args
  have hA' : DataW.TrodAll enc Tryz.prog W 0 (fun _ => true) true [34, 34] argl ds p := hA
  obtain ⟨v0, vs0, d0, ds0, p0, q0, rfl, rfl, rfl, h0, r0⟩ := trodAll_cons hA'
  obtain ⟨v1, vs1, d1, ds1, p1, q1, rfl, rfl, rfl, h1, r1⟩ := trodAll_cons r0
  obtain ⟨rfl, rfl, rfl⟩ := trodAll_nil r1
  obtain ⟨vs_ao, vs_len, vs_cap, vs, rfl, vs_hl, hvs, hvsb, hvsr⟩ := ints_opened (enc := enc) (hval 0 34 v0 rfl rfl) h0
  subst vs_hl
  obtain ⟨xs_ao, xs_len, xs_cap, xs, rfl, xs_hl, hxs, hxsb, hxsr⟩ := ints_opened (enc := enc) (hval 1 34 v1 rfl rfl) h1
  subst xs_hl
  refine ((lawIndices vs_ao xs_ao vs_cap xs_cap vs xs W hvsb hxsb hvs hxs)).mono fun e W' hend => ?_
  obtain ⟨he, hb⟩ := hend
  subst he
  refine ⟨_, rfl, law_post laidOut hb hW' (by kernel_rfl) (by kernel_rfl) (by kernel_rfl) Tryz.underlying4 ?_⟩
  match gs, hgl with
  | [g1, g2, g3, g4, g5, g6, g7], _ => rfl
theorem Idx_row : Rows.FnIndicesMirrorSaid :=
  OpenClaim.holds_of_wide 6 Tryz.f6 rfl rfl rfl rfl rfl rfl rfl ⟨rfl, rfl, rfl, rfl, rfl⟩ rfl rfl rfl rfl rfl (by kernel_rfl) Tryz.func6 Idx_closed
    (of_decide_eq_true (by kernel_rfl)) (by unfold Func.isWrapper; rw [if_neg (of_decide_eq_false (by kernel_rfl))]; exact ⟨rfl, rfl⟩)
    (fun os started H enc _ => Idx_lifted os started H enc)
theorem Idx_holds : Rows.FnIndicesMirrorCardSaid :=
  Claim7.holds_tied_plain_at .later [] [.data, .data, .widerDeep, .widerDeep, .data, .data, .data, .data, .data, .sentinel, .sentinel, .sentinel, .sentinel, .sentinel, .data, .data, .data, .data, .data, .pinned, .pinned] true (true, "0fcad0a1c0757c4753e01c2a5aa4959e64b5773d8626cd3e889d8590a9fc62fc") true
    Idx_row (fun _ h => by cases h) Idx_byText (fun _ h => by cases h) fnIndicesMirror_row_tie rfl ⟨rfl, rfl⟩ seat_main rfl
    (fun f fn hf hfn => by
      obtain rfl : f = 6 := Option.some.inj (Idx_named.symm.trans hf) |>.symm
      obtain rfl : fn = Tryz.f6 := (Option.some.inj (Tryz.func6.symm.trans hfn)).symm
      exact ⟨seat_looks, fun j t ht => by
        rw [Tryz.params6] at ht
        have hm : t ∈ [34] := by have := Array.mem_of_getElem? ht; simp at this; simp [this]
        exact (show Tryz.prog.wantsStandIn t = false by simpa using List.all_eq_true.1 Idx_stand t hm)⟩)
    Idx_goes
#print axioms Idx_holds
end Go.Proofs.YtlhkbdeceogjgaaGreatDoor
