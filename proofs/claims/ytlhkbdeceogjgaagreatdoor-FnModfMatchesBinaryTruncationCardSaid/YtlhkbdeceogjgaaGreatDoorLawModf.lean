/- The law on modf: the number built bit by bit is the whole part. Conditions: none. -/
import Derived.Test.YtlhkbdeceogjgaaGreatDoorModf
namespace Go.Proofs.YtlhkbdeceogjgaaGreatDoor
open Go.RowKit Go
/-- What the law's loop holds. -/
structure Built (r j t : Nat) : Prop where
  small : j ≤ 53
  fin : t < Ieee.double.infRung
  val : val t = head (whole r) j * U
theorem built_start (r : Nat) (h : r < 4841369599423283200) : Built r 53 0 := by
  have hw := whole_small h
  refine ⟨Nat.le_refl _, by rw [d_inf]; omega, ?_⟩
  rw [head_top (show whole r < 2 ^ 53 from Nat.lt_trans hw (by decide)), Nat.zero_mul]
  rfl
/-- One round: the sum, whether it is kept, and what is then held. -/
theorem built_step (r j t : Nat) (h : r < 4841369599423283200) (hb : Built r (j + 1) t) : ∃ u, Ieee.double.add t (pw (j + 1)) = some u ∧ u < Ieee.double.infRung ∧ (u ≤ r → Built r j u) ∧ (¬ u ≤ r → Built r j t) := by
  have hj := hb.small
  obtain ⟨u, h1, h2, h3, h4⟩ := step_float r t j h (by omega) hb.fin hb.val
  obtain ⟨s1, s2⟩ := head_step (whole r) j
  refine ⟨u, h1, h2, fun hu => ⟨by omega, h2, ?_⟩, fun hu => ⟨by omega, hb.fin, ?_⟩⟩
  · rw [h3, s1 (h4.1 hu)]
  · rw [hb.val, s2 (fun x => hu (h4.2 x))]
theorem built_end (r t t0 : Nat) (hb : Built r 0 t) (h0 : val t0 = whole r * U) : t = t0 := by
  apply val_inj.1
  rw [hb.val, head_zero, h0]
theorem le_nat (r q : Nat) (h : r ≤ 9218868437227405312) (h' : q ≤ 9218868437227405312) : (FloatKind.f64.format.order r q == some .lt || FloatKind.f64.format.order r q == some .eq) = decide (r ≤ q) := by
  have e := ord_pair false false r q h h'
  rw [word_false, word_false, sv_false, sv_false] at e
  rw [e.1, e.2.2]
  by_cases x : r ≤ q
  · rw [decide_eq_true x]
    by_cases y : (r : Int) < q
    · rw [decide_eq_true y]; rfl
    · rw [decide_eq_true (p := (r : Int) = q) (by omega), Bool.or_true]
  · rw [decide_eq_false x, decide_eq_false (by omega), decide_eq_false (by omega)]; rfl
theorem neg_zero_word : Op.negFloat .f64 0 = Ieee.double.word true 0 := by decide
theorem pw_lt {j : Nat} : pw j < pw (j + 1) := by unfold pw E52; omega
set_option maxRecDepth 100000 in
set_option maxHeartbeats 1600000 in
theorem lawModf (x : Nat) (hx : x < 18446744073709551616) (w : World) : Calls Tryz.prog 4 #[.float .f64 x] w fun e w' => e = .returned (.bool true) ∧ Below w.heap.size w w' := by
  obtain ⟨s, r, rfl, h⟩ := word_split x hx
  have hz := zz_modf_of _ _ w (funcModf_all s r h w)
  have hn := zzIsNaN_any s r h
  by_cases e1 : 9218868437227405312 < r
  · rw [decide_eq_true e1] at hn
    have HZ := Lib.hid hz
    clear hz
    generalize Ieee.double.word s r = X at *
    go_enter Tryz.func4, Tryz.ntmps4
    go_wp2_with fail
    refine HZ.out.mono ?_
    rintro e w1 ⟨y, z, hq, rfl, b1⟩
    rcases hq with ⟨_, hy, hz⟩ | ⟨hr, _⟩
    · obtain ⟨s1, r1, y1, y2, rfl⟩ := hy
      obtain ⟨s2, r2, z1, z2, rfl⟩ := hz
      have hny := zzIsNaN_any s1 r1 y2
      have hnz := zzIsNaN_any s2 r2 z2
      rw [decide_eq_true y1] at hny
      rw [decide_eq_true z1] at hnz
      clear y1 y2 z1 z2
      generalize Ieee.double.word s1 r1 = Y at *
      generalize Ieee.double.word s2 r2 = Z at *
      have B1 := Lib.hid b1
      clear b1 HZ
      go_wp2_with fail
      refine (hn _).mono ?_
      rintro e w' ⟨rfl, rfl⟩
      go_wp2_with fail
      refine (hnz _).mono ?_
      rintro e w' ⟨rfl, rfl⟩
      go_wp2_with fail
      refine (hny _).mono ?_
      rintro e w' ⟨rfl, rfl⟩
      go_wp2
      go_ret
      exact ⟨rfl, B1.out⟩
    · omega
  · rw [decide_eq_false e1] at hn
    have hsb := zzSignBit_any s r (by omega)
    have hge := ge_nat r 4841369599423283200 (by omega) (by omega)
    have main : ∀ X : Nat, (s = false → X = r) → (s = true → Op.negFloat .f64 X = r) → (∀ q, q < 9223372036854775808 → s = true → Op.negFloat .f64 q = Ieee.double.word s q) → (∀ q, s = false → Ieee.double.word s q = q) →
        (∀ w, Calls Tryz.prog 13 #[.float .f64 X] w (Ret (.bool false) w)) → (∀ w, Calls Tryz.prog 18 #[.float .f64 X] w (Ret (.bool s) w)) →
        (Calls Tryz.prog 17 #[.float .f64 X] w fun e w' => ∃ y z, (∃ t u, t ≤ 9218868437227405312 ∧ u < 9218868437227405312 ∧ y = Ieee.double.word s t ∧ z = Ieee.double.word s u ∧ (4841369599423283200 ≤ r → t = r ∧ u = 0) ∧ (r < 4841369599423283200 → t < 9218868437227405312 ∧ val t = whole r * U ∧ val u = val r - whole r * U)) ∧ e = .returned (.tuple #[.float .f64 z, .float .f64 y, .bool true]) ∧ Below w.heap.size w w') →
        Calls Tryz.prog 4 #[.float .f64 X] w fun e w' => e = .returned (.bool true) ∧ Below w.heap.size w w' := by
      intro X k1 k2 k3 k4 k5 k6 k7
      have HZ := Lib.hid k7
      have K3 := Lib.hid k3
      have K4 := Lib.hid k4
      have HSm := Lib.hid (fun (t : Nat) (ht : t ≤ 9218868437227405312) (w : World) => zzSame_self s t ht w)
      clear k7 k3 k4 hz hn hsb
      cases s
      all_goals
        first | (have hx : r = X := (k1 rfl).symm; subst hx) | (have hx := k2 rfl)
        clear k1 k2
        go_enter Tryz.func4, Tryz.ntmps4
        go_wp2_with fail
        refine HZ.out.mono ?_
        rintro e w1 ⟨y, z, ⟨t, u, t1, u1, hy, hzz, hbig, hsmall⟩, rfl, b1⟩
        rw [hy, hzz]
        clear hy hzz
        have B1 := Lib.hid b1
        have hsY := HSm.out t t1
        have hsZ := HSm.out u (by omega)
        clear HSm
        clear b1 HZ
        by_cases hb : 4841369599423283200 ≤ r
        · obtain ⟨ht, hu⟩ := hbig hb
          rw [decide_eq_true hb] at hge
          clear hbig hsmall
          rw [ht] at hsY
          rw [hu] at hsZ
          rw [ht, hu]
          clear ht hu
          first
            | (have p1 := K4.out r (by first | rfl | trivial)
               have p2 := K4.out 0 (by first | rfl | trivial)
               rw [p1] at hsY
               rw [p2] at hsZ
               rw [p1, p2]
               clear p1 p2)
            | (have p1 := K3.out r h (by first | rfl | trivial)
               have p2 := K3.out 0 (by omega) (by first | rfl | trivial)
               rw [← p1] at hsY
               rw [← p2] at hsZ
               rw [← p1, ← p2]
               clear p1 p2)
          clear K3 K4
          go_wp2_with (first | (go_at_call 13; refine (k5 _).mono ?_; rintro e w' ⟨rfl, rfl⟩) | (go_at_call 18; refine (k6 _).mono ?_; rintro e w' ⟨rfl, rfl⟩))
          refine (hsY _).mono ?_
          rintro e w' ⟨rfl, rfl⟩
          go_wp2_with fail
          refine (hsZ _).mono ?_
          rintro e w' ⟨rfl, rfl⟩
          go_wp2
          go_ret
          exact ⟨rfl, B1.out⟩
        · obtain ⟨ht, hvt, hvu⟩ := hsmall (by omega)
          rw [decide_eq_false hb] at hge
          clear hbig hsmall
          have HV := Lib.hid hvt
          have hsub := sub_same false r t u (by rw [d_inf]; omega) (by rw [d_inf]; omega) (by rw [d_inf]; omega) (by rw [hvt]; exact whole_mul_le r) (by rw [hvt]; exact hvu)
          rw [word_false, word_false, show (if u = 0 then false else false) = false from by split <;> rfl, word_false] at hsub
          have hop : ∀ ty w, (binOp .sub ty (.float .f64 r) (.float .f64 t)).run Tryz.prog w = .ok (.float .f64 u) w := fun ty w => run_float_arith w .sub ty .f64 _ _ _ hsub
          have HOP := Lib.hid hop
          clear hop hvt hvu hsub
          go_wp2_with (first | (go_at_call 13; refine (k5 _).mono ?_; rintro e w' ⟨rfl, rfl⟩) | (go_at_call 18; refine (k6 _).mono ?_; rintro e w' ⟨rfl, rfl⟩))
          go_loopw [8, 10] (fun a p wr => ∃ (j q : Nat), a = .float .f64 q ∧ p = .float .f64 (pw j) ∧ Hid (Built r j q) ∧ w1 = wr) (fun _ p _ => bitsOf p)
          case atStart => exact ⟨53, 0, rfl, by rw [pw_top], Lib.hid (built_start r (by omega)), rfl⟩
          case round =>
            obtain ⟨j, q, rfl, rfl, HB, rfl⟩ := hrel
            have hj := HB.out.small
            have hp := ge_nat (pw j) 4607182418800017408 (by have := pw_fin hj; omega) (by omega)
            by_cases hj1 : 1 ≤ j
            · rw [decide_eq_true ((pw_one j).2 hj1)] at hp
              obtain ⟨i, rfl⟩ : ∃ i, j = i + 1 := ⟨j - 1, by omega⟩
              obtain ⟨v, a1, a2, a3, a4⟩ := built_step r i q (by omega) HB.out
              have hadd : ∀ ty w, (binOp .add ty (.float .f64 q) (.float .f64 (pw (i + 1)))).run Tryz.prog w = .ok (.float .f64 v) w := fun ty w => run_float_arith w .add ty .f64 _ _ _ a1
              have hdiv : ∀ ty w, (binOp .quo ty (.float .f64 (pw (i + 1))) (.float .f64 4611686018427387904)).run Tryz.prog w = .ok (.float .f64 (pw i)) w := fun ty w => run_float_arith w .quo ty .f64 _ _ _ (by
                have := div_two false (pw (i + 1)) (pw_two _) (by rw [d_inf]; exact pw_fin hj)
                rw [word_false, word_false, pw_half] at this
                exact this)
              have hle := le_nat v r (by rw [d_inf] at a2; omega) (by omega)
              have hm := bits_lt (pw_lt (j := i))
              have A3 := Lib.hid a3
              have A4 := Lib.hid a4
              clear a1 a2 a3 a4
              generalize pw (i + 1) = P at *
              by_cases hv : v ≤ r
              · rw [decide_eq_true hv] at hle
                go_wp2
                first
                  | exact ⟨⟨i, v, rfl, rfl, Lib.hid (A3.out hv), (by first | rfl | trivial)⟩, hm⟩
                  | (go_roundw
                     case rel => exact ⟨i, v, rfl, rfl, Lib.hid (A3.out hv), (by first | rfl | trivial)⟩
                     case measure => exact hm)
              · rw [decide_eq_false hv] at hle
                go_wp2
                first
                  | exact ⟨⟨i, q, rfl, rfl, Lib.hid (A4.out hv), (by first | rfl | trivial)⟩, hm⟩
                  | (go_roundw
                     case rel => exact ⟨i, q, rfl, rfl, Lib.hid (A4.out hv), (by first | rfl | trivial)⟩
                     case measure => exact hm)
            · rw [decide_eq_false (fun x => hj1 ((pw_one j).1 x))] at hp
              obtain rfl : j = 0 := by omega
              have hq := built_end r q t HB.out HV.out
              subst hq
              have hop := HOP.out
              first
                | (have p1 := K4.out q (by first | rfl | trivial)
                   have p2 := K4.out u (by first | rfl | trivial)
                   rw [p1] at hsY
                   rw [p2] at hsZ
                   rw [p1, p2]
                   clear p1 p2)
                | (have p1 := K3.out q (by omega) (by first | rfl | trivial)
                   have p2 := K3.out u (by omega) (by first | rfl | trivial)
                   rw [← p1] at hsY
                   rw [← p2] at hsZ
                   rw [← p1, ← p2]
                   clear p1 p2)
              go_wp2_with fail
              refine (hsY _).mono ?_
              rintro e w' ⟨rfl, rfl⟩
              go_wp2_with fail
              refine (hsZ _).mono ?_
              rintro e w' ⟨rfl, rfl⟩
              go_wp2
              go_ret
              exact ⟨rfl, B1.out⟩
    refine main _ (fun e => by rw [e]; rfl) (fun e => by rw [neg_word s r h, e]; rfl) (fun q hq e => ?_) (fun q e => by rw [e]; rfl) hn hsb (hz.mono ?_)
    · have := neg_word false q hq
      rw [word_false] at this
      rw [this, e]; rfl
    · rintro e w' ⟨y, z, hq, he, hb⟩
      rcases hq with ⟨hr, _⟩ | ⟨_, hq⟩
      · omega
      · exact ⟨y, z, hq, he, hb⟩
end Go.Proofs.YtlhkbdeceogjgaaGreatDoor
