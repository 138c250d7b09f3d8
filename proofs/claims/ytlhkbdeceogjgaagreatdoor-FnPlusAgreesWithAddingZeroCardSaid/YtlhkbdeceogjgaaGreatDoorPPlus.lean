/- For every int and every float the call of the law returns true and leaves all that was there as it was. Conditions: none on the arguments; the package-level variables that the row lists hold what the program text lays in them. -/
import Derived.Test.YtlhkbdeceogjgaaGreatDoorRows
import Derived.Test.YtlhkbdeceogjgaaGreatDoorCards
import Derived.Test.YtlhkbdeceogjgaaGreatDoorTie
import Derived.Test.YtlhkbdeceogjgaaGreatDoorPost
import Derived.Test.YtlhkbdeceogjgaaGreatDoorCPlus
import Derived.Test.YtlhkbdeceogjgaaGreatDoorSeat
import Derived.Test.YtlhkbdeceogjgaaGreatDoorPlus
import Derived.SevenTiedAt
import Derived.Laws.Cover2
namespace Go.Proofs.YtlhkbdeceogjgaaGreatDoor
open Go.ChangeShapes Go.WideShapes Go.ChangeAt Go.RowKit Go.WideMaps Go.WideElems Go
open Go.ChangeMaps (open_string shut_string)
theorem Plus_goes : false = Rows.fnPlusAgreesWithAddingZeroRow.goesBy Tryz.pinned.checked.prog := by kernel_rfl
theorem Plus_named : Tryz.prog.funcNamed "github.com/itchyny/gojq/n001_74.FnPlusAgreesWithAddingZero" = some 7 := by kernel_rfl
theorem Plus_stand : ([3, 22].all fun u => !Tryz.prog.wantsStandIn u) = true := by kernel_rfl
set_option maxRecDepth 100000 in
theorem Plus_lifted (os : Os) (started : os.Started) (H : Type) (enc : TypeId × Value → H) :
    ReturnsInHanded {} Tryz.checked os 7 .any (fun w args => (Rows.fnPlusAgreesWithAddingZeroSpec.pre enc Tryz.prog Tryz.f7 [] false w args ∧ laidMetH Tryz.prog seatLaid1 w) ∧ sizedMet enc Tryz.prog Tryz.f7 (OpenSpec.ofChange Rows.fnPlusAgreesWithAddingZeroSpec) false w args)
      (Rows.fnPlusAgreesWithAddingZeroSpec.post enc Tryz.prog Tryz.f7 false true false false) := by
  refine returnsInHanded_of_change_and (C := Tryz.checked) (X := fun w _ => laidMetH Tryz.prog seatLaid1 w) (fun _ _ _ hh h => h.of_heap hh) own started (by kernel_rfl) Tryz.func7
    (ChangeSpec.witness_shaped (enc := enc) (C := Tryz.checked) (os := os) (X := fun w _ => laidMetH Tryz.prog seatLaid1 w) false (World.laidAll Tryz.prog os seatLaid1) #[.int .i64 0, .float .f64 0] 8 (World.laidAll_os _ _ _)
      (wit_shaped1 os _) (Plus_ok os) (Plus_pre os H enc) (Plus_sz os H enc) (wit_laid1 os _)) ?_
  intro W base args ds gs before hval0 hW _ hsz0 hL _
  have hval : ∀ (j : Nat) t v, Tryz.f7.params[j]? = some t → args[j]? = some v → Value.okWide Tryz.prog W .any base t v := hval0
  have hW' := hW
  obtain ⟨p, q, hA0, hV, rfl, _, _⟩ := hW
  have hA : DataW.TrodAll enc Tryz.prog W 0 (fun _ => true) true Tryz.f7.params.toList args.toList ds p := hA0
  have hgl : gs.length = 7 := trodVars_length hV
  rw [Tryz.params7] at hA hval
  obtain ⟨argl⟩ := args
  have hA' : DataW.TrodAll enc Tryz.prog W 0 (fun _ => true) true [3, 22] argl ds p := hA
  obtain ⟨v0, vs0, d0, ds0, p0, q0, rfl, rfl, rfl, h0, r0⟩ := trodAll_cons hA'
  obtain ⟨v1, vs1, d1, ds1, p1, q1, rfl, rfl, rfl, h1, r1⟩ := trodAll_cons r0
  obtain ⟨rfl, rfl, rfl⟩ := trodAll_nil r1
  obtain ⟨n, rfl, rfl, rfl, wn⟩ := open_int Tryz.underlying3 (hval 0 3 v0 rfl rfl) h0
  have hn : -9223372036854775808 ≤ n ∧ n ≤ 9223372036854775807 := by simpa [Lit.wf, IntKind.min, IntKind.max, IntKind.signed, IntKind.bits] using wn
  obtain ⟨x, rfl, rfl, rfl, hx⟩ := open_float Tryz.underlying22 (hval 1 22 v1 rfl rfl) h1
  refine ((lawPlus n x hn (float_lt hx) W).mono (fun _ _ h => retD_below h)).mono fun e W' hend => ?_
  obtain ⟨he, hb⟩ := hend
  subst he
  refine ⟨_, rfl, law_post laidOut hb hW' (by kernel_rfl) (by kernel_rfl) (by kernel_rfl) Tryz.underlying4 ?_⟩
  match gs, hgl with
  | [g1, g2, g3, g4, g5, g6, g7], _ => rfl
theorem Plus_row : Rows.FnPlusAgreesWithAddingZeroSaid :=
  OpenClaim.holds_of_wide 7 Tryz.f7 rfl rfl rfl rfl rfl rfl rfl ⟨rfl, rfl, rfl, rfl, rfl⟩ rfl rfl rfl rfl rfl (by kernel_rfl) Tryz.func7 Plus_closed
    (of_decide_eq_true (by kernel_rfl)) (by unfold Func.isWrapper; rw [if_neg (of_decide_eq_false (by kernel_rfl))]; exact ⟨rfl, rfl⟩)
    (fun os started H enc _ => Plus_lifted os started H enc)
theorem Plus_holds : Rows.FnPlusAgreesWithAddingZeroCardSaid :=
  Claim7.holds_tied_plain_at .later [] [.data, .data, .widerDeep, .widerDeep, .data, .data, .data, .data, .data, .sentinel, .sentinel, .sentinel, .sentinel, .sentinel, .data, .data, .data, .data, .data, .pinned, .pinned] true (true, "0fcad0a1c0757c4753e01c2a5aa4959e64b5773d8626cd3e889d8590a9fc62fc") true
    Plus_row (fun _ h => by cases h) Plus_byText (fun _ h => by cases h) fnPlusAgreesWithAddingZero_row_tie rfl ⟨rfl, rfl⟩ seat_main rfl
    (fun f fn hf hfn => by
      obtain rfl : f = 7 := Option.some.inj (Plus_named.symm.trans hf) |>.symm
      obtain rfl : fn = Tryz.f7 := (Option.some.inj (Tryz.func7.symm.trans hfn)).symm
      exact ⟨seat_looks, fun j t ht => by
        rw [Tryz.params7] at ht
        have hm : t ∈ [3, 22] := by have := Array.mem_of_getElem? ht; simp at this; simp [this]
        exact (show Tryz.prog.wantsStandIn t = false by simpa using List.all_eq_true.1 Plus_stand t hm)⟩)
    Plus_goes
#print axioms Plus_holds
end Go.Proofs.YtlhkbdeceogjgaaGreatDoor
