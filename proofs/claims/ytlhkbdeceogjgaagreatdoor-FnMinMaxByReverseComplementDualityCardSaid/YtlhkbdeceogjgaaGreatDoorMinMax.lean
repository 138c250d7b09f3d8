/- minMaxBy on arrays of ints, and the exports over it, walked. Conditions: at most 1048576 elements. -/
import Derived.Test.YtlhkbdeceogjgaaGreatDoorInts
import Derived.Test.YtlhkbdeceogjgaaGreatDoorOps
import Derived.Test.YtlhkbdeceogjgaaGreatDoorMMPlain
namespace Go.Proofs.YtlhkbdeceogjgaaGreatDoor
open Go.RowKit Go
/-- What minMaxBy answers. -/
def mmVal (isMin : Bool) (V K : List Int) : Value := if V = [] then .nilIface else .iface 3 (.int .i64 (geti V (mmTo isMin K K.length)))
set_option maxRecDepth 100000 in
set_option maxHeartbeats 1600000 in
theorem minMaxBy_any (ao bo : Option Addr) (c1 c2 : Nat) (V K : List Int) (isMin : Bool) (w : World) (hV : V.length = K.length) (hn : K.length ≤ 1048576) (hs : AnysArg w ao V) (ht : AnysArg w bo K) :
    Calls Tryz.prog 60 #[.slice ao V.length c1, .slice bo K.length c2, .bool isMin] w (RetD (mmVal isMin V K) w) := by
  have Hs := Lib.hid hs.at'
  have Ht := Lib.hid ht.at'
  clear hs ht
  by_cases h0 : K.length = 0
  · have hv0 : V = [] := List.length_eq_zero_iff.1 (by omega)
    subst hv0
    have hk0 : K = [] := List.length_eq_zero_iff.1 h0
    subst hk0
    go_enter Tryz.func60, Tryz.ntmps60
    go_wp2
    go_ret
    exact ⟨rfl, 0, rfl⟩
  · have hval : mmVal isMin V K = .iface 3 (.int .i64 (geti V (mmTo isMin K K.length))) := by
      unfold mmVal; rw [if_neg (fun e => by rw [e] at hV; simp at hV; omega)]
    have HV := Lib.hid hval
    clear hval
    rw [hV]
    have HVl := Lib.hid hV
    clear hV
    obtain ⟨b', off', hbo, hc0⟩ := Ht.out 0 (by omega)
    subst hbo
    have hc1 : w.cell? ⟨b', off', none⟩ = some (.iface 3 (.int .i64 (geti K 0))) := by simpa using hc0
    have Hc0 := Lib.hid hc0
    clear hc0
    have hm0 : mmTo isMin K 1 = 0 := mmTo_one isMin K
    have Hm0 := Lib.hid hm0
    clear hm0
    generalize hn' : K.length = n at *
    have Hn := Lib.hid hn'
    clear hn'
    have hpos : 0 < n := by omega
    have hzb : ((n : Int) == 0) = false := by simp; omega
    clear h0
    go_enter Tryz.func60, Tryz.ntmps60
    go_wp2
    go_quiet (fail)
    clear hc1
    go_wp2
    go_loopw [7, 8, 9] (fun i j x wr => ∃ m : Nat, 1 ≤ m ∧ m ≤ n ∧ i = .int .i64 m ∧ j = .int .i64 (mmTo isMin K m : Nat) ∧ x = .iface 3 (.int .i64 (geti K (mmTo isMin K m))) ∧ Hid (∃ nq, wr = w.drewN nq)) (fun i _ _ _ => n - (intOf i).toNat)
    case atStart => exact ⟨1, Nat.le_refl _, hpos, rfl, by rw [Hm0.out]; rfl, by rw [Hm0.out], Lib.hid ⟨_, rfl⟩⟩
    case round =>
      obtain ⟨m, hm1, hm2, rfl, rfl, rfl, Hw⟩ := hrel
      have hj := mmTo_lt isMin K m hm1
      by_cases hlt : m < n
      · obtain ⟨b2, off2, e2, hc⟩ := Ht.out m (by first | exact hlt | (rw [Hn.out]; exact hlt))
        cases e2
        have hcw : wr.cell? ⟨b', off' + m, none⟩ = some (.iface 3 (.int .i64 (geti K m))) := by obtain ⟨nq, h⟩ := Hw.out; rw [h]; exact hc
        clear hc
        cases isMin
        · by_cases hc : 0 < cmpI (geti K (mmTo false K m)) (geti K m)
          · have hd := hc
            have ht : (decide (0 < cmpI (geti K (mmTo false K m)) (geti K m)) == false) = false := by simp [hc]
            have HS := Lib.hid (mmTo_no false K m hm1 ht)
            clear ht
            go_wp2_with (go_at_call 62; refine (compare_ii _ _ _).mono ?_; rintro e w' ⟨rfl, rfl⟩)
            all_goals try (exfalso; rename_i hx; simp at hx; omega)
            first
              | exact ⟨⟨m + 1, by omega, by omega, by go_num, by rw [HS.out], by rw [HS.out], Lib.hid (by first | exact Hw.out | exact drew_more Hw.out _ | exact drew_more (drew_more Hw.out _) _)⟩, by simp [intOf]; omega⟩
              | (go_roundw
                 case rel => exact ⟨m + 1, by omega, by omega, by go_num, by rw [HS.out], by rw [HS.out], Lib.hid (by first | exact Hw.out | exact drew_more Hw.out _ | exact drew_more (drew_more Hw.out _) _)⟩
                 case measure => simp [intOf]; omega)
          · have hd := hc
            have ht : (decide (0 < cmpI (geti K (mmTo false K m)) (geti K m)) == false) = true := by simp [hc]
            have HS := Lib.hid (mmTo_yes false K m hm1 ht)
            clear ht
            go_wp2_with (go_at_call 62; refine (compare_ii _ _ _).mono ?_; rintro e w' ⟨rfl, rfl⟩)
            all_goals try (exfalso; rename_i hx; simp at hx; omega)
            go_quiet (fail)
            go_wp2
            first
              | exact ⟨⟨m + 1, by omega, by omega, by go_num, by rw [HS.out], by rw [HS.out], Lib.hid (by first | exact Hw.out | exact drew_more Hw.out _ | exact drew_more (drew_more Hw.out _) _)⟩, by simp [intOf]; omega⟩
              | (go_roundw
                 case rel => exact ⟨m + 1, by omega, by omega, by go_num, by rw [HS.out], by rw [HS.out], Lib.hid (by first | exact Hw.out | exact drew_more Hw.out _ | exact drew_more (drew_more Hw.out _) _)⟩
                 case measure => simp [intOf]; omega)
        · by_cases hc : 0 < cmpI (geti K (mmTo true K m)) (geti K m)
          · have hd := hc
            have ht : (decide (0 < cmpI (geti K (mmTo true K m)) (geti K m)) == true) = true := by simp [hc]
            have HS := Lib.hid (mmTo_yes true K m hm1 ht)
            clear ht
            go_wp2_with (go_at_call 62; refine (compare_ii _ _ _).mono ?_; rintro e w' ⟨rfl, rfl⟩)
            all_goals try (exfalso; rename_i hx; simp at hx; omega)
            go_quiet (fail)
            go_wp2
            first
              | exact ⟨⟨m + 1, by omega, by omega, by go_num, by rw [HS.out], by rw [HS.out], Lib.hid (by first | exact Hw.out | exact drew_more Hw.out _ | exact drew_more (drew_more Hw.out _) _)⟩, by simp [intOf]; omega⟩
              | (go_roundw
                 case rel => exact ⟨m + 1, by omega, by omega, by go_num, by rw [HS.out], by rw [HS.out], Lib.hid (by first | exact Hw.out | exact drew_more Hw.out _ | exact drew_more (drew_more Hw.out _) _)⟩
                 case measure => simp [intOf]; omega)
          · have hd := hc
            have ht : (decide (0 < cmpI (geti K (mmTo true K m)) (geti K m)) == true) = false := by simp [hc]
            have HS := Lib.hid (mmTo_no true K m hm1 ht)
            clear ht
            go_wp2_with (go_at_call 62; refine (compare_ii _ _ _).mono ?_; rintro e w' ⟨rfl, rfl⟩)
            all_goals try (exfalso; rename_i hx; simp at hx; omega)
            first
              | exact ⟨⟨m + 1, by omega, by omega, by go_num, by rw [HS.out], by rw [HS.out], Lib.hid (by first | exact Hw.out | exact drew_more Hw.out _ | exact drew_more (drew_more Hw.out _) _)⟩, by simp [intOf]; omega⟩
              | (go_roundw
                 case rel => exact ⟨m + 1, by omega, by omega, by go_num, by rw [HS.out], by rw [HS.out], Lib.hid (by first | exact Hw.out | exact drew_more Hw.out _ | exact drew_more (drew_more Hw.out _) _)⟩
                 case measure => simp [intOf]; omega)
      · obtain rfl : m = n := by omega
        obtain ⟨bv, offv, ev, hcv⟩ := Hs.out (mmTo isMin K m) (by rw [HVl.out]; omega)
        subst ev
        have hcw : wr.cell? ⟨bv, offv + mmTo isMin K m, none⟩ = some (.iface 3 (.int .i64 (geti V (mmTo isMin K m)))) := by obtain ⟨nq, h⟩ := Hw.out; rw [h]; exact hcv
        clear hcv
        go_wp2
        go_ret
        exact ⟨by rw [HV.out]; rfl, Hw.out⟩
theorem decode_nil (w : World) : Calls Tryz.prog 59 #[.nilIface] w (Ret (.tuple #[.int .i64 0, .int .i64 0]) w) := by
  go_enter Tryz.func59, Tryz.ntmps59
  go_wp2
  go_ret2
  exact ⟨rfl, rfl⟩
theorem decode_int (n : Int) (w : World) : Calls Tryz.prog 59 #[.iface 3 (.int .i64 n)] w (Ret (.tuple #[.int .i64 1, .int .i64 n]) w) := by
  go_enter Tryz.func59, Tryz.ntmps59
  go_wp2
  go_ret2
  exact ⟨rfl, rfl⟩
theorem decode_any (isMin : Bool) (V K : List Int) (w : World) : Calls Tryz.prog 59 #[mmVal isMin V K] w (Ret (.tuple #[.int .i64 (mmK V), .int .i64 (mmV isMin V K)]) w) := by
  unfold mmVal mmK mmV
  by_cases e : V = []
  · rw [if_pos e, if_pos e, if_pos e]; exact decode_nil w
  · rw [if_neg e, if_neg e, if_neg e]; exact decode_int _ w
set_option maxRecDepth 100000 in
set_option maxHeartbeats 1600000 in
theorem zz_minMax (ao bo : Option Addr) (c1 c2 : Nat) (V K : List Int) (isMin : Bool) (w : World) (hV : V.length = K.length) (hn : K.length ≤ 1048576) (hs : IntsArg w ao c1 V) (ht : IntsArg w bo c2 K) :
    Calls Tryz.prog 35 #[.slice ao V.length c1, .slice bo K.length c2, .bool isMin] w fun e w' => e = .returned (.tuple #[.int .i64 (mmK V), .int .i64 (mmV isMin V K)]) ∧ Below w.heap.size w w' := by
  have hlen : V.length ≤ 1048576 := by omega
  have hd := decode_any isMin V K
  have hc := fun (a1 a2 : Option Addr) (k1 k2 : Nat) (w : World) => minMaxBy_any a1 a2 k1 k2 V K isMin w hV hn
  generalize mmVal isMin V K = v at hd hc
  generalize mmK V = kk at hd ⊢
  generalize mmV isMin V K = z at hd ⊢
  have HD := Lib.hid hd
  have HC := Lib.hid hc
  clear hd hc hV
  go_enter Tryz.func35, Tryz.ntmps35
  go_wp2_with fail
  refine (toAny_any ao c1 V w hlen hs).mono ?_
  rintro e w1 ⟨a1, k1, rfl, h1, b1⟩
  go_wp2_with fail
  refine (toAny_any _ _ _ _ hn (ht.below b1)).mono ?_
  rintro e w2 ⟨a2, k2, rfl, h2, b2⟩
  have HE := Lib.hid (HC.out a1 a2 k1 k2 w2 (h1.below b2) h2)
  have HB := Lib.hid (b1.trans (b2.mono b1.size))
  clear hs ht h1 h2 b1 b2
  go_wp2_with fail
  refine HE.out.mono ?_
  rintro e w3 ⟨rfl, nq, rfl⟩
  go_wp2_with fail
  refine (HD.out _).mono ?_
  rintro e w4 ⟨rfl, rfl⟩
  go_wp2
  go_ret2
  exact ⟨rfl, HB.out.trans ⟨rfl, rfl, rfl, Nat.le_refl _, fun _ _ => rfl⟩⟩
set_option maxRecDepth 100000 in
set_option maxHeartbeats 1600000 in
theorem zz_max (ao : Option Addr) (c1 : Nat) (V : List Int) (w : World) (hn : V.length ≤ 1048576) (hs : IntsArg w ao c1 V) :
    Calls Tryz.prog 47 #[.slice ao V.length c1] w fun e w' => e = .returned (.tuple #[.int .i64 (mmK V), .int .i64 (mmV false V V)]) ∧ Below w.heap.size w w' := by
  have hd := decode_any false V V
  have hc := fun (a1 a2 : Option Addr) (k1 k2 : Nat) (w : World) => minMaxBy_any a1 a2 k1 k2 V V false w rfl hn
  generalize mmVal false V V = v at hd hc
  generalize mmK V = kk at hd ⊢
  generalize mmV false V V = z at hd ⊢
  have HD := Lib.hid hd
  have HC := Lib.hid hc
  clear hd hc
  go_enter Tryz.func47, Tryz.ntmps47
  go_wp2_with fail
  refine (toAny_any _ _ _ _ hn hs).mono ?_
  rintro e w1 ⟨a1, k1, rfl, h1, b1⟩
  have HE := Lib.hid (HC.out a1 a1 k1 k1 w1 h1 h1)
  have HB := Lib.hid b1
  clear hs h1 b1
  go_wp2_with (first | (go_at_call 63; go_in) | (go_at_call 60; refine HE.out.mono ?_; rintro e w3 ⟨rfl, nq, rfl⟩) | (go_at_call 59; refine (HD.out _).mono ?_; rintro e w4 ⟨rfl, rfl⟩))
  go_ret2
  exact ⟨rfl, HB.out.trans ⟨rfl, rfl, rfl, Nat.le_refl _, fun _ _ => rfl⟩⟩
end Go.Proofs.YtlhkbdeceogjgaaGreatDoor
