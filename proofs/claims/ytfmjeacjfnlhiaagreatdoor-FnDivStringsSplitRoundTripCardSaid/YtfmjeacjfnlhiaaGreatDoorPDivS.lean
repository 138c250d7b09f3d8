/- For every two strings the call of the law returns true and leaves all that was there as it was. Conditions: none on the arguments; the package-level variables that the row lists hold what the program text lays in them. -/
import Derived.Test.YtfmjeacjfnlhiaaGreatDoorRows
import Derived.Test.YtfmjeacjfnlhiaaGreatDoorCards
import Derived.Test.YtfmjeacjfnlhiaaGreatDoorTie
import Derived.Test.YtfmjeacjfnlhiaaGreatDoorPost
import Derived.Test.YtfmjeacjfnlhiaaGreatDoorCDivS
import Derived.Test.YtfmjeacjfnlhiaaGreatDoorSeat
import Derived.Test.YtfmjeacjfnlhiaaGreatDoorDivS
import Derived.SevenTiedAt
import Derived.Laws.Cover2
namespace Go.Proofs.YtfmjeacjfnlhiaaGreatDoor
open Go.ChangeShapes Go.WideShapes Go.ChangeAt Go.RowKit Go.WideMaps Go.WideElems Go
open Go.ChangeMaps (open_string shut_string)
theorem DivS_goes : false = Rows.fnDivStringsSplitRoundTripRow.goesBy Tryz.pinned.checked.prog := by kernel_rfl
theorem DivS_named : Tryz.prog.funcNamed "github.com/itchyny/gojq/n001_79.FnDivStringsSplitRoundTrip" = some 4 := by kernel_rfl
theorem DivS_stand : ([9].all fun u => !Tryz.prog.wantsStandIn u) = true := by kernel_rfl
set_option maxRecDepth 100000 in
theorem DivS_lifted (os : Os) (started : os.Started) (H : Type) (enc : TypeId × Value → H) :
    ReturnsInHanded {} Tryz.checked os 4 .any (fun w args => (Rows.fnDivStringsSplitRoundTripSpec.pre enc Tryz.prog Tryz.f4 [] false w args ∧ laidMetH Tryz.prog seatLaid0 w) ∧ sizedMet enc Tryz.prog Tryz.f4 (OpenSpec.ofChange Rows.fnDivStringsSplitRoundTripSpec) false w args)
      (Rows.fnDivStringsSplitRoundTripSpec.post enc Tryz.prog Tryz.f4 false true false false) := by
  refine returnsInHanded_of_change_and (C := Tryz.checked) (X := fun w _ => laidMetH Tryz.prog seatLaid0 w) (fun _ _ _ hh h => h.of_heap hh) own started (by kernel_rfl) Tryz.func4
    (ChangeSpec.witness_shaped (enc := enc) (C := Tryz.checked) (os := os) (X := fun w _ => laidMetH Tryz.prog seatLaid0 w) false (World.laidAll Tryz.prog os seatLaid0) #[.string ByteArray.empty, .string ByteArray.empty] 8 (World.laidAll_os _ _ _)
      (wit_shaped0 os _) (DivS_ok os) (DivS_pre os H enc) (DivS_sz os H enc) (wit_laid0 os _)) ?_
  intro W base args ds gs before hval0 hW _ hsz0 hL _
  have hval : ∀ (j : Nat) t v, Tryz.f4.params[j]? = some t → args[j]? = some v → Value.okWide Tryz.prog W .any base t v := hval0
  have hW' := hW
  obtain ⟨p, q, hA0, hV, rfl, _, _⟩ := hW
  have hA : DataW.TrodAll enc Tryz.prog W 0 (fun _ => true) true Tryz.f4.params.toList args.toList ds p := hA0
  have hgl : gs.length = 7 := trodVars_length hV
  rw [Tryz.params4] at hA hval
  obtain ⟨argl⟩ := args
  have hA' : DataW.TrodAll enc Tryz.prog W 0 (fun _ => true) true [9, 9] argl ds p := hA
  obtain ⟨v0, vs0, d0, ds0, p0, q0, rfl, rfl, rfl, h0, r0⟩ := trodAll_cons hA'
  obtain ⟨v1, vs1, d1, ds1, p1, q1, rfl, rfl, rfl, h1, r1⟩ := trodAll_cons r0
  obtain ⟨rfl, rfl, rfl⟩ := trodAll_nil r1
  obtain ⟨l, rfl, rfl, rfl, hl⟩ := open_string Tryz.underlying9 (hval 0 9 v0 rfl rfl) h0
  unfold maxLen at hl
  obtain ⟨r, rfl, rfl, rfl, hr⟩ := open_string Tryz.underlying9 (hval 1 9 v1 rfl rfl) h1
  unfold maxLen at hr
  refine ((lawDivS l r hl hr W (u8_of_laid hL (List.mem_of_getElem? (i := 22) (by kernel_rfl)) (List.mem_of_getElem? (i := 9) (by kernel_rfl))))).mono fun e W' hend => ?_
  obtain ⟨he, hb⟩ := hend
  subst he
  refine ⟨_, rfl, law_post laidOut hb hW' (by kernel_rfl) (by kernel_rfl) (by kernel_rfl) Tryz.underlying4 ?_⟩
  match gs, hgl with
  | [g1, g2, g3, g4, g5, g6, g7], _ => rfl
theorem DivS_row : Rows.FnDivStringsSplitRoundTripSaid :=
  OpenClaim.holds_of_wide 4 Tryz.f4 rfl rfl rfl rfl rfl rfl rfl ⟨rfl, rfl, rfl, rfl, rfl⟩ rfl rfl rfl rfl rfl (by kernel_rfl) Tryz.func4 DivS_closed
    (of_decide_eq_true (by kernel_rfl)) (by unfold Func.isWrapper; rw [if_neg (of_decide_eq_false (by kernel_rfl))]; exact ⟨rfl, rfl⟩)
    (fun os started H enc _ => DivS_lifted os started H enc)
theorem DivS_holds : Rows.FnDivStringsSplitRoundTripCardSaid :=
  Claim7.holds_tied_plain_at .later [] [.data, .data, .widerDeep, .widerDeep, .data, .data, .data, .data, .data, .data, .sentinel, .sentinel, .sentinel, .sentinel, .sentinel, .data, .data, .data, .data, .data, .pinned, .pinned, .pinned] true (true, "cc1684f18a0322d4267030a7811c827d1d24fc7e9bf876289be6a4c6684ecbcb") true
    DivS_row (fun _ h => by cases h) DivS_byText (fun _ h => by cases h) fnDivStringsSplitRoundTrip_row_tie rfl ⟨rfl, rfl⟩ seat_main rfl
    (fun f fn hf hfn => by
      obtain rfl : f = 4 := Option.some.inj (DivS_named.symm.trans hf) |>.symm
      obtain rfl : fn = Tryz.f4 := (Option.some.inj (Tryz.func4.symm.trans hfn)).symm
      exact ⟨seat_looks, fun j t ht => by
        rw [Tryz.params4] at ht
        have hm : t ∈ [9] := by have := Array.mem_of_getElem? ht; simp at this; simp [this]
        exact (show Tryz.prog.wantsStandIn t = false by simpa using List.all_eq_true.1 DivS_stand t hm)⟩)
    DivS_goes
#print axioms DivS_holds
end Go.Proofs.YtfmjeacjfnlhiaaGreatDoor
