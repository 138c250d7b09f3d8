/- For every two ints, float and two strings the call of the law returns true and leaves all that was there as it was. Conditions: none on the arguments; the package-level variables that the row lists hold what the program text lays in them. -/
import Derived.Test.YtlhkbdeceogjgaaGreatDoorRows
import Derived.Test.YtlhkbdeceogjgaaGreatDoorCards
import Derived.Test.YtlhkbdeceogjgaaGreatDoorTie
import Derived.Test.YtlhkbdeceogjgaaGreatDoorPost
import Derived.Test.YtlhkbdeceogjgaaGreatDoorCDisp
import Derived.Test.YtlhkbdeceogjgaaGreatDoorSeat
import Derived.Test.YtlhkbdeceogjgaaGreatDoorDisp
import Derived.SevenTiedAt
import Derived.Laws.Cover2
namespace Go.Proofs.YtlhkbdeceogjgaaGreatDoor
open Go.ChangeShapes Go.WideShapes Go.ChangeAt Go.RowKit Go.WideMaps Go.WideElems Go
open Go.ChangeMaps (open_string shut_string)
theorem Disp_goes : false = Rows.fnCompareDispatchCaseTableRow.goesBy Tryz.pinned.checked.prog := by kernel_rfl
theorem Disp_named : Tryz.prog.funcNamed "github.com/itchyny/gojq/n001_74.FnCompareDispatchCaseTable" = some 10 := by kernel_rfl
theorem Disp_stand : ([3, 22, 9].all fun u => !Tryz.prog.wantsStandIn u) = true := by kernel_rfl
set_option maxRecDepth 100000 in
theorem Disp_lifted (os : Os) (started : os.Started) (H : Type) (enc : TypeId × Value → H) :
    ReturnsInHanded {} Tryz.checked os 10 .any (fun w args => (Rows.fnCompareDispatchCaseTableSpec.pre enc Tryz.prog Tryz.f10 [] false w args ∧ laidMetH Tryz.prog seatLaid1 w) ∧ sizedMet enc Tryz.prog Tryz.f10 (OpenSpec.ofChange Rows.fnCompareDispatchCaseTableSpec) false w args)
      (Rows.fnCompareDispatchCaseTableSpec.post enc Tryz.prog Tryz.f10 false true false false) := by
  refine returnsInHanded_of_change_and (C := Tryz.checked) (X := fun w _ => laidMetH Tryz.prog seatLaid1 w) (fun _ _ _ hh h => h.of_heap hh) own started (by kernel_rfl) Tryz.func10
    (ChangeSpec.witness_shaped (enc := enc) (C := Tryz.checked) (os := os) (X := fun w _ => laidMetH Tryz.prog seatLaid1 w) false (World.laidAll Tryz.prog os seatLaid1) #[.int .i64 0, .int .i64 0, .float .f64 0, .string ByteArray.empty, .string ByteArray.empty] 8 (World.laidAll_os _ _ _)
      (wit_shaped1 os _) (Disp_ok os) (Disp_pre os H enc) (Disp_sz os H enc) (wit_laid1 os _)) ?_
  intro W base args ds gs before hval0 hW _ hsz0 hL _
  have hval : ∀ (j : Nat) t v, Tryz.f10.params[j]? = some t → args[j]? = some v → Value.okWide Tryz.prog W .any base t v := hval0
  have hW' := hW
  obtain ⟨p, q, hA0, hV, rfl, _, _⟩ := hW
  have hA : DataW.TrodAll enc Tryz.prog W 0 (fun _ => true) true Tryz.f10.params.toList args.toList ds p := hA0
  have hgl : gs.length = 7 := trodVars_length hV
  rw [Tryz.params10] at hA hval
  obtain ⟨argl⟩ := args
  have hA' : DataW.TrodAll enc Tryz.prog W 0 (fun _ => true) true [3, 3, 22, 9, 9] argl ds p := hA
  obtain ⟨v0, vs0, d0, ds0, p0, q0, rfl, rfl, rfl, h0, r0⟩ := trodAll_cons hA'
  obtain ⟨v1, vs1, d1, ds1, p1, q1, rfl, rfl, rfl, h1, r1⟩ := trodAll_cons r0
  obtain ⟨v2, vs2, d2, ds2, p2, q2, rfl, rfl, rfl, h2, r2⟩ := trodAll_cons r1
  obtain ⟨v3, vs3, d3, ds3, p3, q3, rfl, rfl, rfl, h3, r3⟩ := trodAll_cons r2
  obtain ⟨v4, vs4, d4, ds4, p4, q4, rfl, rfl, rfl, h4, r4⟩ := trodAll_cons r3
  obtain ⟨rfl, rfl, rfl⟩ := trodAll_nil r4
  obtain ⟨a, rfl, rfl, rfl, wa⟩ := open_int Tryz.underlying3 (hval 0 3 v0 rfl rfl) h0
  have ha : -9223372036854775808 ≤ a ∧ a ≤ 9223372036854775807 := by simpa [Lit.wf, IntKind.min, IntKind.max, IntKind.signed, IntKind.bits] using wa
  obtain ⟨b, rfl, rfl, rfl, wb⟩ := open_int Tryz.underlying3 (hval 1 3 v1 rfl rfl) h1
  have hb : -9223372036854775808 ≤ b ∧ b ≤ 9223372036854775807 := by simpa [Lit.wf, IntKind.min, IntKind.max, IntKind.signed, IntKind.bits] using wb
  obtain ⟨f, rfl, rfl, rfl, hf⟩ := open_float Tryz.underlying22 (hval 2 22 v2 rfl rfl) h2
  obtain ⟨s, rfl, rfl, rfl, hs⟩ := open_string Tryz.underlying9 (hval 3 9 v3 rfl rfl) h3
  unfold maxLen at hs
  obtain ⟨t, rfl, rfl, rfl, ht⟩ := open_string Tryz.underlying9 (hval 4 9 v4 rfl rfl) h4
  unfold maxLen at ht
  refine ((lawDispatch a b f s t ha (float_lt hf) hs ht W)).mono fun e W' hend => ?_
  obtain ⟨he, hb⟩ := hend
  subst he
  refine ⟨_, rfl, law_post laidOut hb hW' (by kernel_rfl) (by kernel_rfl) (by kernel_rfl) Tryz.underlying4 ?_⟩
  match gs, hgl with
  | [g1, g2, g3, g4, g5, g6, g7], _ => rfl
theorem Disp_row : Rows.FnCompareDispatchCaseTableSaid :=
  OpenClaim.holds_of_wide 10 Tryz.f10 rfl rfl rfl rfl rfl rfl rfl ⟨rfl, rfl, rfl, rfl, rfl⟩ rfl rfl rfl rfl rfl (by kernel_rfl) Tryz.func10 Disp_closed
    (of_decide_eq_true (by kernel_rfl)) (by unfold Func.isWrapper; rw [if_neg (of_decide_eq_false (by kernel_rfl))]; exact ⟨rfl, rfl⟩)
    (fun os started H enc _ => Disp_lifted os started H enc)
theorem Disp_holds : Rows.FnCompareDispatchCaseTableCardSaid :=
  Claim7.holds_tied_plain_at .later [] [.data, .data, .widerDeep, .widerDeep, .data, .data, .data, .data, .data, .sentinel, .sentinel, .sentinel, .sentinel, .sentinel, .data, .data, .data, .data, .data, .pinned, .pinned] true (true, "0fcad0a1c0757c4753e01c2a5aa4959e64b5773d8626cd3e889d8590a9fc62fc") true
    Disp_row (fun _ h => by cases h) Disp_byText (fun _ h => by cases h) fnCompareDispatchCaseTable_row_tie rfl ⟨rfl, rfl⟩ seat_main rfl
    (fun f fn hf hfn => by
      obtain rfl : f = 10 := Option.some.inj (Disp_named.symm.trans hf) |>.symm
      obtain rfl : fn = Tryz.f10 := (Option.some.inj (Tryz.func10.symm.trans hfn)).symm
      exact ⟨seat_looks, fun j t ht => by
        rw [Tryz.params10] at ht
        have hm : t ∈ [3, 22, 9] := by have := Array.mem_of_getElem? ht; simp at this; simp [this]
        exact (show Tryz.prog.wantsStandIn t = false by simpa using List.all_eq_true.1 Disp_stand t hm)⟩)
    Disp_goes
#print axioms Disp_holds
end Go.Proofs.YtlhkbdeceogjgaaGreatDoor
