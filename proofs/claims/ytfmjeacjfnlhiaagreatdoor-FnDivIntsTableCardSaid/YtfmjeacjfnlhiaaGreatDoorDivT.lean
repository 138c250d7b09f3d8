/- Quotients of two ints: the table, walked; not yet the least int by minus one. Conditions: none. -/
import Derived.Test.YtfmjeacjfnlhiaaGreatDoorDivL
namespace Go.Proofs.YtfmjeacjfnlhiaaGreatDoor
open Go.RowKit Go
set_option maxRecDepth 100000 in
set_option maxHeartbeats 3200000 in
theorem lawDivTable_of (l r : Int) (hl : -9223372036854775808 ≤ l ∧ l ≤ 9223372036854775807) (hr : -9223372036854775808 ≤ r ∧ r ≤ 9223372036854775807) (h : ¬ (l = -9223372036854775808 ∧ r = -1)) (w : World) :
    Calls Tryz.prog 3 #[.int .i64 l, .int .i64 r] w (RetB (.bool true) w) := by
  by_cases h0 : r = 0
  · subst h0
    have HA := Lib.hid (zz_div0 l)
    go_enter Tryz.func3, Tryz.ntmps3
    go_wp2_with fail
    refine (HA.out _).mono ?_
    rintro e w1 ⟨rfl, hb⟩
    go_wp2
    go_ret
    exact ⟨ret_bool (by first | rfl | simp), hb.alloc hb.size _⟩
  · have hr0 : (r == 0) = false := by simpa using h0
    obtain ⟨y, hy, hyy, hz0⟩ := div_facts l r hl hr h0
    obtain ⟨m, hm⟩ : ∃ m, m = l.natAbs % r.natAbs := ⟨_, rfl⟩
    obtain ⟨Q, hQ⟩ : ∃ Q, Q = l.natAbs / r.natAbs := ⟨_, rfl⟩
    have hmi : (l.natAbs : Int) % (r.natAbs : Int) = (m : Int) := by rw [hm]; rfl
    have hqi : (l.natAbs : Int) / (r.natAbs : Int) = (Q : Int) := by rw [hQ]; rfl
    have hrp : 0 < r.natAbs := by omega
    by_cases hm0 : l.tmod r = 0
    · have hmz : m = 0 := by rw [hm]; exact (tmod_zero_iff l r).1 hm0
      subst hmz
      obtain ⟨f1, f2, f3, f4, f5⟩ := tdiv_facts l r
      have hrg := tdiv_range l r hl h0 h
      have HA := Lib.hid (zz_divi l r hl h0 h hm0)
      rw [← hQ] at f1
      clear hm hQ hy hyy hz0 hm0 h
      generalize l.tdiv r = t at *
      by_cases hq0 : Q = 0
      · have ht0 : t = 0 := by omega
        subst hq0 ht0
        clear f1 f2 f3 f4 f5 hrg
        go_enter Tryz.func3, Tryz.ntmps3
        go_wp2_with (first | (go_at_call 5; refine (HA.out _).mono ?_; rintro e w1 ⟨rfl, hb⟩) | (go_at_call 6; refine (mag_any _ (by assumption) _).mono ?_; rintro e w' ⟨rfl, rfl⟩))
        go_ret
        exact ⟨ret_bool (by first | rfl | simp), hb.alloc hb.size _⟩
      · have hqb : ((Q : Int) == 0) = false := by rw [beq_eq_false_iff_ne]; omega
        have hQ63 : (Q : Int) ≤ 9223372036854775808 := by omega
        by_cases x : l < 0 <;> by_cases z : r < 0
        · have ht : t = Q := by have := f5 (by omega) (by omega); omega
          subst ht
          clear f1 f2 f3 f4 f5
          have hxl : decide (l < 0) = true := by simpa using x
          have hx : decide (r < 0) = true := by simpa using z
          have hw : IntKind.i64.wrap (Q : Int) = Q := IntWalk.i64_in _ hrg
          go_enter Tryz.func3, Tryz.ntmps3
          go_wp2_with (first | (go_at_call 5; refine (HA.out _).mono ?_; rintro e w1 ⟨rfl, hb⟩) | (go_at_call 6; refine (mag_any _ (by assumption) _).mono ?_; rintro e w' ⟨rfl, rfl⟩))
          go_ret
          exact ⟨ret_bool (by first | rfl | (simp; done) | simp [hw]), hb.alloc hb.size _⟩
        · have ht : t = -(Q : Int) := by have := f3 (by omega) (by omega); omega
          subst ht
          clear f1 f2 f3 f4 f5
          have hxl : decide (l < 0) = true := by simpa using x
          have hx : decide (r < 0) = false := by simpa using z
          have hneg : -(Q : Int) < 0 := by omega
          have hab : ((-(Q : Int)).natAbs : Int) = Q := by omega
          go_enter Tryz.func3, Tryz.ntmps3
          go_wp2_with (first | (go_at_call 5; refine (HA.out _).mono ?_; rintro e w1 ⟨rfl, hb⟩) | (go_at_call 6; refine (mag_any _ (by assumption) _).mono ?_; rintro e w' ⟨rfl, rfl⟩))
          go_ret
          exact ⟨ret_bool (by first | rfl | (simp; done) | (simp [hneg, hab]; done) | (simp; omega)), hb.alloc hb.size _⟩
        · have ht : t = -(Q : Int) := by have := f4 (by omega) (by omega); omega
          subst ht
          clear f1 f2 f3 f4 f5
          have hxl : decide (l < 0) = false := by simpa using x
          have hx : decide (r < 0) = true := by simpa using z
          have hneg : -(Q : Int) < 0 := by omega
          have hab : ((-(Q : Int)).natAbs : Int) = Q := by omega
          go_enter Tryz.func3, Tryz.ntmps3
          go_wp2_with (first | (go_at_call 5; refine (HA.out _).mono ?_; rintro e w1 ⟨rfl, hb⟩) | (go_at_call 6; refine (mag_any _ (by assumption) _).mono ?_; rintro e w' ⟨rfl, rfl⟩))
          go_ret
          exact ⟨ret_bool (by first | rfl | (simp; done) | (simp [hneg, hab]; done) | (simp; omega)), hb.alloc hb.size _⟩
        · have ht : t = Q := by have := f2 (by omega) (by omega); omega
          subst ht
          clear f1 f2 f3 f4 f5
          have hxl : decide (l < 0) = false := by simpa using x
          have hx : decide (r < 0) = false := by simpa using z
          have hw : IntKind.i64.wrap (Q : Int) = Q := IntWalk.i64_in _ hrg
          go_enter Tryz.func3, Tryz.ntmps3
          go_wp2_with (first | (go_at_call 5; refine (HA.out _).mono ?_; rintro e w1 ⟨rfl, hb⟩) | (go_at_call 6; refine (mag_any _ (by assumption) _).mono ?_; rintro e w' ⟨rfl, rfl⟩))
          go_ret
          exact ⟨ret_bool (by first | rfl | (simp; done) | simp [hw]), hb.alloc hb.size _⟩
    · have hmz : m ≠ 0 := fun e => hm0 ((tmod_zero_iff l r).2 (by rw [← hm]; exact e))
      have hmb : ((m : Int) != 0) = true := by simpa using hmz
      have hr1 : r ≠ -1 := fun e => hm0 (by rw [e]; simp)
      have HA := Lib.hid (zz_divf l r y hl h0 hr1 hm0 hy)
      have hop : ∀ t w, (binOp .quo t (.float .f64 (floatOfInt .f64 l)) (.float .f64 (floatOfInt .f64 r))).run Tryz.prog w = .ok (.float .f64 y) w := fun t w => run_float_arith w .quo t .f64 _ _ _ hy
      clear hm hQ hy hz0 hm0 h hqi
      go_enter Tryz.func3, Tryz.ntmps3
      go_wp2_with (first | (go_at_call 5; refine (HA.out _).mono ?_; rintro e w1 ⟨rfl, hb⟩) | (go_at_call 6; refine (mag_any _ (by assumption) _).mono ?_; rintro e w' ⟨rfl, rfl⟩))
      go_ret
      exact ⟨ret_bool (by first | rfl | exact hyy | simp), hb.alloc hb.size _⟩
end Go.Proofs.YtfmjeacjfnlhiaaGreatDoor
