/- For every slice of bytes, every slice of ints and every two ints the call of the law returns true and leaves all that was there as it was. Conditions: none on the arguments; the package-level variables that the row lists hold what the program text lays in them. -/
import Derived.Test.YtlhndkonhjjcgaaGreatDoorRows
import Derived.Test.YtlhndkonhjjcgaaGreatDoorCards
import Derived.Test.YtlhndkonhjjcgaaGreatDoorTie
import Derived.Test.YtlhndkonhjjcgaaGreatDoorPost
import Derived.Test.YtlhndkonhjjcgaaGreatDoorCFC
import Derived.Test.YtlhndkonhjjcgaaGreatDoorSeat
import Derived.Test.YtlhndkonhjjcgaaGreatDoorArgs
import Derived.Test.YtlhndkonhjjcgaaGreatDoorLawFC
import Derived.SevenTiedAt
import Derived.Laws.Cover2
namespace Go.Proofs.YtlhndkonhjjcgaaGreatDoor
open Go.ChangeShapes Go.WideShapes Go.ChangeAt Go.RowKit Go.WideMaps Go.WideElems Go
open Go.ChangeMaps (open_string shut_string)
theorem FC_goes : false = Rows.fnFlattenDepthsComposeRow.goesBy Tryz.pinned.checked.prog := by kernel_rfl
theorem FC_named : Tryz.prog.funcNamed "github.com/itchyny/gojq/n001_97.FnFlattenDepthsCompose" = some 3 := by kernel_rfl
theorem FC_stand : ([22, 23, 3].all fun u => !Tryz.prog.wantsStandIn u) = true := by kernel_rfl
set_option maxRecDepth 100000 in
theorem FC_lifted (os : Os) (started : os.Started) (H : Type) (enc : TypeId × Value → H) :
    ReturnsInHanded {} Tryz.checked os 3 .any (fun w args => (Rows.fnFlattenDepthsComposeSpec.pre enc Tryz.prog Tryz.f3 [] false w args ∧ laidMetH Tryz.prog seatLaid0 w) ∧ sizedMet enc Tryz.prog Tryz.f3 (OpenSpec.ofChange Rows.fnFlattenDepthsComposeSpec) false w args)
      (Rows.fnFlattenDepthsComposeSpec.post enc Tryz.prog Tryz.f3 false true false false) := by
  refine returnsInHanded_of_change_and (C := Tryz.checked) (X := fun w _ => laidMetH Tryz.prog seatLaid0 w) (fun _ _ _ hh h => h.of_heap hh) own started (by kernel_rfl) Tryz.func3
    (ChangeSpec.witness_shaped (enc := enc) (C := Tryz.checked) (os := os) (X := fun w _ => laidMetH Tryz.prog seatLaid0 w) false (World.laidAll Tryz.prog os seatLaid0) #[.slice none 0 0, .slice none 0 0, .int .i64 0, .int .i64 0] 8 (World.laidAll_os _ _ _)
      (wit_shaped0 os _) (FC_ok os) (FC_pre os H enc) (FC_sz os H enc) (wit_laid0 os _)) ?_
  intro W base args ds gs before hval0 hW _ hsz0 hL _
  have hval : ∀ (j : Nat) t v, Tryz.f3.params[j]? = some t → args[j]? = some v → Value.okWide Tryz.prog W .any base t v := hval0
  have hW' := hW
  obtain ⟨p, q, hA0, hV, rfl, _, _⟩ := hW
  have hA : DataW.TrodAll enc Tryz.prog W 0 (fun _ => true) true Tryz.f3.params.toList args.toList ds p := hA0
  have hgl : gs.length = 5 := trodVars_length hV
  rw [Tryz.params3] at hA hval
  obtain ⟨argl⟩ := args
  have hA' : DataW.TrodAll enc Tryz.prog W 0 (fun _ => true) true [22, 23, 3, 3] argl ds p := hA
  obtain ⟨v0, vs0, d0, ds0, p0, q0, rfl, rfl, rfl, h0, r0⟩ := trodAll_cons hA'
  obtain ⟨v1, vs1, d1, ds1, p1, q1, rfl, rfl, rfl, h1, r1⟩ := trodAll_cons r0
  obtain ⟨v2, vs2, d2, ds2, p2, q2, rfl, rfl, rfl, h2, r2⟩ := trodAll_cons r1
  obtain ⟨v3, vs3, d3, ds3, p3, q3, rfl, rfl, rfl, h3, r3⟩ := trodAll_cons r2
  obtain ⟨rfl, rfl, rfl⟩ := trodAll_nil r3
  obtain ⟨tz_ao, tz_len, tz_cap, tz, rfl, tz_hl, htz, htzb, htzr⟩ := arg_opened (k := .u8) Tryz.underlying22 Tryz.underlying5 cellsU8 (enc := enc) (hval 0 22 v0 rfl rfl) h0
  subst tz_hl
  obtain ⟨vz_ao, vz_len, vz_cap, vz, rfl, vz_hl, hvz, hvzb, hvzr⟩ := arg_opened (k := .i64) Tryz.underlying23 Tryz.underlying3 cellsInt (enc := enc) (hval 1 23 v1 rfl rfl) h1
  subst vz_hl
  obtain ⟨a, rfl, rfl, rfl, wa⟩ := open_int Tryz.underlying3 (hval 2 3 v2 rfl rfl) h2
  have ha : -9223372036854775808 ≤ a ∧ a ≤ 9223372036854775807 := by simpa [Lit.wf, IntKind.min, IntKind.max, IntKind.signed, IntKind.bits] using wa
  obtain ⟨b, rfl, rfl, rfl, wb⟩ := open_int Tryz.underlying3 (hval 3 3 v3 rfl rfl) h3
  have hb : -9223372036854775808 ≤ b ∧ b ≤ 9223372036854775807 := by simpa [Lit.wf, IntKind.min, IntKind.max, IntKind.signed, IntKind.bits] using wb
  refine ((lawFC tz_ao vz_ao tz_cap vz_cap tz vz a b W htz hvz htzb hvzb (u8_nonneg htzr) ha hb)).mono fun e W' hend => ?_
  obtain ⟨he, hb⟩ := hend
  subst he
  refine ⟨_, rfl, law_post laidOut hb hW' (by kernel_rfl) (by kernel_rfl) (by kernel_rfl) Tryz.underlying4 ?_⟩
  match gs, hgl with
  | [g1, g2, g3, g4, g5], _ => rfl
theorem FC_row : Rows.FnFlattenDepthsComposeSaid :=
  OpenClaim.holds_of_wide 3 Tryz.f3 rfl rfl rfl rfl rfl rfl rfl ⟨rfl, rfl, rfl, rfl, rfl⟩ rfl rfl rfl rfl rfl (by kernel_rfl) Tryz.func3 FC_closed
    (of_decide_eq_true (by kernel_rfl)) (by unfold Func.isWrapper; rw [if_neg (of_decide_eq_false (by kernel_rfl))]; exact ⟨rfl, rfl⟩)
    (fun os started H enc _ => FC_lifted os started H enc)
theorem FC_holds : Rows.FnFlattenDepthsComposeCardSaid :=
  Claim7.holds_tied_plain_at .later [] [.data, .data, .widerDeep, .widerDeep, .data, .data, .data, .data, .data, .sentinel, .sentinel, .data, .data, .data, .data, .data, .pinned, .pinned] true (true, "82bc7a4d03ff3eeacd2b6e633c72fbeb6518e4ab2f35fce0f1b67ec59819b46e") true
    FC_row (fun _ h => by cases h) FC_byText (fun _ h => by cases h) fnFlattenDepthsCompose_row_tie rfl ⟨rfl, rfl⟩ seat_main rfl
    (fun f fn hf hfn => by
      obtain rfl : f = 3 := Option.some.inj (FC_named.symm.trans hf) |>.symm
      obtain rfl : fn = Tryz.f3 := (Option.some.inj (Tryz.func3.symm.trans hfn)).symm
      exact ⟨seat_looks, fun j t ht => by
        rw [Tryz.params3] at ht
        have hm : t ∈ [22, 23, 3] := by have := Array.mem_of_getElem? ht; simp at this; simp [this]
        exact (show Tryz.prog.wantsStandIn t = false by simpa using List.all_eq_true.1 FC_stand t hm)⟩)
    FC_goes
#print axioms FC_holds
end Go.Proofs.YtlhndkonhjjcgaaGreatDoor
