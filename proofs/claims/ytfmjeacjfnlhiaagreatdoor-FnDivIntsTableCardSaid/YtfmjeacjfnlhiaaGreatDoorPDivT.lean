/- For every two ints the call of the law returns true and leaves all that was there as it was. Conditions: none on the arguments; the package-level variables that the row lists hold what the program text lays in them. -/
import Derived.Test.YtfmjeacjfnlhiaaGreatDoorRows
import Derived.Test.YtfmjeacjfnlhiaaGreatDoorCards
import Derived.Test.YtfmjeacjfnlhiaaGreatDoorTie
import Derived.Test.YtfmjeacjfnlhiaaGreatDoorPost
import Derived.Test.YtfmjeacjfnlhiaaGreatDoorCDivT
import Derived.Test.YtfmjeacjfnlhiaaGreatDoorSeat
import Derived.Test.YtfmjeacjfnlhiaaGreatDoorBig
import Derived.SevenTiedAt
import Derived.Laws.Cover2
namespace Go.Proofs.YtfmjeacjfnlhiaaGreatDoor
open Go.ChangeShapes Go.WideShapes Go.ChangeAt Go.RowKit Go.WideMaps Go.WideElems Go
open Go.ChangeMaps (open_string shut_string)
theorem DivT_goes : false = Rows.fnDivIntsTableRow.goesBy Tryz.pinned.checked.prog := by kernel_rfl
theorem DivT_named : Tryz.prog.funcNamed "github.com/itchyny/gojq/n001_79.FnDivIntsTable" = some 3 := by kernel_rfl
theorem DivT_stand : ([3].all fun u => !Tryz.prog.wantsStandIn u) = true := by kernel_rfl
set_option maxRecDepth 100000 in
theorem DivT_lifted (os : Os) (started : os.Started) (H : Type) (enc : TypeId × Value → H) :
    ReturnsInHanded {} Tryz.checked os 3 .any (fun w args => (Rows.fnDivIntsTableSpec.pre enc Tryz.prog Tryz.f3 [] false w args ∧ laidMetH Tryz.prog seatLaid0 w) ∧ sizedMet enc Tryz.prog Tryz.f3 (OpenSpec.ofChange Rows.fnDivIntsTableSpec) false w args)
      (Rows.fnDivIntsTableSpec.post enc Tryz.prog Tryz.f3 false true false false) := by
  refine returnsInHanded_of_change_and (C := Tryz.checked) (X := fun w _ => laidMetH Tryz.prog seatLaid0 w) (fun _ _ _ hh h => h.of_heap hh) own started (by kernel_rfl) Tryz.func3
    (ChangeSpec.witness_shaped (enc := enc) (C := Tryz.checked) (os := os) (X := fun w _ => laidMetH Tryz.prog seatLaid0 w) false (World.laidAll Tryz.prog os seatLaid0) #[.int .i64 0, .int .i64 0] 8 (World.laidAll_os _ _ _)
      (wit_shaped0 os _) (DivT_ok os) (DivT_pre os H enc) (DivT_sz os H enc) (wit_laid0 os _)) ?_
  intro W base args ds gs before hval0 hW _ hsz0 hL _
  have hval : ∀ (j : Nat) t v, Tryz.f3.params[j]? = some t → args[j]? = some v → Value.okWide Tryz.prog W .any base t v := hval0
  have hW' := hW
  obtain ⟨p, q, hA0, hV, rfl, _, _⟩ := hW
  have hA : DataW.TrodAll enc Tryz.prog W 0 (fun _ => true) true Tryz.f3.params.toList args.toList ds p := hA0
  have hgl : gs.length = 7 := trodVars_length hV
  rw [Tryz.params3] at hA hval
  obtain ⟨argl⟩ := args
  have hA' : DataW.TrodAll enc Tryz.prog W 0 (fun _ => true) true [3, 3] argl ds p := hA
  obtain ⟨v0, vs0, d0, ds0, p0, q0, rfl, rfl, rfl, h0, r0⟩ := trodAll_cons hA'
  obtain ⟨v1, vs1, d1, ds1, p1, q1, rfl, rfl, rfl, h1, r1⟩ := trodAll_cons r0
  obtain ⟨rfl, rfl, rfl⟩ := trodAll_nil r1
  obtain ⟨l, rfl, rfl, rfl, wl⟩ := open_int Tryz.underlying3 (hval 0 3 v0 rfl rfl) h0
  have hl : -9223372036854775808 ≤ l ∧ l ≤ 9223372036854775807 := by simpa [Lit.wf, IntKind.min, IntKind.max, IntKind.signed, IntKind.bits] using wl
  obtain ⟨r, rfl, rfl, rfl, wr⟩ := open_int Tryz.underlying3 (hval 1 3 v1 rfl rfl) h1
  have hr : -9223372036854775808 ≤ r ∧ r ≤ 9223372036854775807 := by simpa [Lit.wf, IntKind.min, IntKind.max, IntKind.signed, IntKind.bits] using wr
  refine ((lawDivTable l r hl hr W)).mono fun e W' hend => ?_
  obtain ⟨he, hb⟩ := hend
  subst he
  refine ⟨_, rfl, law_post laidOut hb hW' (by kernel_rfl) (by kernel_rfl) (by kernel_rfl) Tryz.underlying4 ?_⟩
  match gs, hgl with
  | [g1, g2, g3, g4, g5, g6, g7], _ => rfl
theorem DivT_row : Rows.FnDivIntsTableSaid :=
  OpenClaim.holds_of_wide 3 Tryz.f3 rfl rfl rfl rfl rfl rfl rfl ⟨rfl, rfl, rfl, rfl, rfl⟩ rfl rfl rfl rfl rfl (by kernel_rfl) Tryz.func3 DivT_closed
    (of_decide_eq_true (by kernel_rfl)) (by unfold Func.isWrapper; rw [if_neg (of_decide_eq_false (by kernel_rfl))]; exact ⟨rfl, rfl⟩)
    (fun os started H enc _ => DivT_lifted os started H enc)
theorem DivT_holds : Rows.FnDivIntsTableCardSaid :=
  Claim7.holds_tied_plain_at .later [] [.data, .data, .widerDeep, .widerDeep, .data, .data, .data, .data, .data, .data, .sentinel, .sentinel, .sentinel, .sentinel, .sentinel, .data, .data, .data, .data, .data, .pinned, .pinned, .pinned] true (true, "cc1684f18a0322d4267030a7811c827d1d24fc7e9bf876289be6a4c6684ecbcb") true
    DivT_row (fun _ h => by cases h) DivT_byText (fun _ h => by cases h) fnDivIntsTable_row_tie rfl ⟨rfl, rfl⟩ seat_main rfl
    (fun f fn hf hfn => by
      obtain rfl : f = 3 := Option.some.inj (DivT_named.symm.trans hf) |>.symm
      obtain rfl : fn = Tryz.f3 := (Option.some.inj (Tryz.func3.symm.trans hfn)).symm
      exact ⟨seat_looks, fun j t ht => by
        rw [Tryz.params3] at ht
        have hm : t ∈ [3] := by have := Array.mem_of_getElem? ht; simp at this; simp [this]
        exact (show Tryz.prog.wantsStandIn t = false by simpa using List.all_eq_true.1 DivT_stand t hm)⟩)
    DivT_goes
#print axioms DivT_holds
end Go.Proofs.YtfmjeacjfnlhiaaGreatDoor
