/- For every slice of bytes, every slice of ints, every bool and every float the call of the law returns true and leaves all that was there as it was. Conditions: none on the arguments; the package-level variables that the row lists hold what the program text lays in them. -/
import Derived.Test.YtlhndkonhjjcgaaGreatDoorRows
import Derived.Test.YtlhndkonhjjcgaaGreatDoorCards
import Derived.Test.YtlhndkonhjjcgaaGreatDoorTie
import Derived.Test.YtlhndkonhjjcgaaGreatDoorPost
import Derived.Test.YtlhndkonhjjcgaaGreatDoorCFL
import Derived.Test.YtlhndkonhjjcgaaGreatDoorSeat
import Derived.Test.YtlhndkonhjjcgaaGreatDoorArgs
import Derived.Test.YtlhndkonhjjcgaaGreatDoorLawFL
import Derived.SevenTiedAt
import Derived.Laws.Cover2
namespace Go.Proofs.YtlhndkonhjjcgaaGreatDoor
open Go.ChangeShapes Go.WideShapes Go.ChangeAt Go.RowKit Go.WideMaps Go.WideElems Go
open Go.ChangeMaps (open_string shut_string)
theorem FL_goes : false = Rows.fnFlattenMatchesLevelModelRow.goesBy Tryz.pinned.checked.prog := by kernel_rfl
theorem FL_named : Tryz.prog.funcNamed "github.com/itchyny/gojq/n001_97.FnFlattenMatchesLevelModel" = some 4 := by kernel_rfl
theorem FL_stand : ([22, 23, 4, 30].all fun u => !Tryz.prog.wantsStandIn u) = true := by kernel_rfl
set_option maxRecDepth 100000 in
theorem FL_lifted (os : Os) (started : os.Started) (H : Type) (enc : TypeId × Value → H) :
    ReturnsInHanded {} Tryz.checked os 4 .any (fun w args => (Rows.fnFlattenMatchesLevelModelSpec.pre enc Tryz.prog Tryz.f4 [] false w args ∧ laidMetH Tryz.prog seatLaid0 w) ∧ sizedMet enc Tryz.prog Tryz.f4 (OpenSpec.ofChange Rows.fnFlattenMatchesLevelModelSpec) false w args)
      (Rows.fnFlattenMatchesLevelModelSpec.post enc Tryz.prog Tryz.f4 false true false false) := by
  refine returnsInHanded_of_change_and (C := Tryz.checked) (X := fun w _ => laidMetH Tryz.prog seatLaid0 w) (fun _ _ _ hh h => h.of_heap hh) own started (by kernel_rfl) Tryz.func4
    (ChangeSpec.witness_shaped (enc := enc) (C := Tryz.checked) (os := os) (X := fun w _ => laidMetH Tryz.prog seatLaid0 w) false (World.laidAll Tryz.prog os seatLaid0) #[.slice none 0 0, .slice none 0 0, .bool false, .float .f64 0] 8 (World.laidAll_os _ _ _)
      (wit_shaped0 os _) (FL_ok os) (FL_pre os H enc) (FL_sz os H enc) (wit_laid0 os _)) ?_
  intro W base args ds gs before hval0 hW _ hsz0 hL _
  have hval : ∀ (j : Nat) t v, Tryz.f4.params[j]? = some t → args[j]? = some v → Value.okWide Tryz.prog W .any base t v := hval0
  have hW' := hW
  obtain ⟨p, q, hA0, hV, rfl, _, _⟩ := hW
  have hA : DataW.TrodAll enc Tryz.prog W 0 (fun _ => true) true Tryz.f4.params.toList args.toList ds p := hA0
  have hgl : gs.length = 5 := trodVars_length hV
  rw [Tryz.params4] at hA hval
  obtain ⟨argl⟩ := args
  have hA' : DataW.TrodAll enc Tryz.prog W 0 (fun _ => true) true [22, 23, 4, 30] argl ds p := hA
  obtain ⟨v0, vs0, d0, ds0, p0, q0, rfl, rfl, rfl, h0, r0⟩ := trodAll_cons hA'
  obtain ⟨v1, vs1, d1, ds1, p1, q1, rfl, rfl, rfl, h1, r1⟩ := trodAll_cons r0
  obtain ⟨v2, vs2, d2, ds2, p2, q2, rfl, rfl, rfl, h2, r2⟩ := trodAll_cons r1
  obtain ⟨v3, vs3, d3, ds3, p3, q3, rfl, rfl, rfl, h3, r3⟩ := trodAll_cons r2
  obtain ⟨rfl, rfl, rfl⟩ := trodAll_nil r3
  obtain ⟨tz_ao, tz_len, tz_cap, tz, rfl, tz_hl, htz, htzb, htzr⟩ := arg_opened (k := .u8) Tryz.underlying22 Tryz.underlying5 cellsU8 (enc := enc) (hval 0 22 v0 rfl rfl) h0
  subst tz_hl
  obtain ⟨vz_ao, vz_len, vz_cap, vz, rfl, vz_hl, hvz, hvzb, hvzr⟩ := arg_opened (k := .i64) Tryz.underlying23 Tryz.underlying3 cellsInt (enc := enc) (hval 1 23 v1 rfl rfl) h1
  subst vz_hl
  obtain ⟨h, rfl, rfl, rfl⟩ := open_bool Tryz.underlying4 (hval 2 4 v2 rfl rfl) h2
  obtain ⟨d, rfl, rfl, rfl, hd⟩ := open_float Tryz.underlying30 (hval 3 30 v3 rfl rfl) h3
  refine ((lawFL tz_ao vz_ao tz_cap vz_cap tz vz h d W htz hvz htzb hvzb (u8_nonneg htzr) (float_lt hd))).mono fun e W' hend => ?_
  obtain ⟨he, hb⟩ := hend
  subst he
  refine ⟨_, rfl, law_post laidOut hb hW' (by kernel_rfl) (by kernel_rfl) (by kernel_rfl) Tryz.underlying4 ?_⟩
  match gs, hgl with
  | [g1, g2, g3, g4, g5], _ => rfl
theorem FL_row : Rows.FnFlattenMatchesLevelModelSaid :=
  OpenClaim.holds_of_wide 4 Tryz.f4 rfl rfl rfl rfl rfl rfl rfl ⟨rfl, rfl, rfl, rfl, rfl⟩ rfl rfl rfl rfl rfl (by kernel_rfl) Tryz.func4 FL_closed
    (of_decide_eq_true (by kernel_rfl)) (by unfold Func.isWrapper; rw [if_neg (of_decide_eq_false (by kernel_rfl))]; exact ⟨rfl, rfl⟩)
    (fun os started H enc _ => FL_lifted os started H enc)
theorem FL_holds : Rows.FnFlattenMatchesLevelModelCardSaid :=
  Claim7.holds_tied_plain_at .later [] [.data, .data, .widerDeep, .widerDeep, .data, .data, .data, .data, .data, .sentinel, .sentinel, .data, .data, .data, .data, .data, .pinned, .pinned] true (true, "82bc7a4d03ff3eeacd2b6e633c72fbeb6518e4ab2f35fce0f1b67ec59819b46e") true
    FL_row (fun _ h => by cases h) FL_byText (fun _ h => by cases h) fnFlattenMatchesLevelModel_row_tie rfl ⟨rfl, rfl⟩ seat_main rfl
    (fun f fn hf hfn => by
      obtain rfl : f = 4 := Option.some.inj (FL_named.symm.trans hf) |>.symm
      obtain rfl : fn = Tryz.f4 := (Option.some.inj (Tryz.func4.symm.trans hfn)).symm
      exact ⟨seat_looks, fun j t ht => by
        rw [Tryz.params4] at ht
        have hm : t ∈ [22, 23, 4, 30] := by have := Array.mem_of_getElem? ht; simp at this; simp [this]
        exact (show Tryz.prog.wantsStandIn t = false by simpa using List.all_eq_true.1 FL_stand t hm)⟩)
    FL_goes
#print axioms FL_holds
end Go.Proofs.YtlhndkonhjjcgaaGreatDoor
