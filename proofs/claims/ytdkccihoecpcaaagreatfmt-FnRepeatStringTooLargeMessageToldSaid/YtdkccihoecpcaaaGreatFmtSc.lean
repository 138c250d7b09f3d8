/- Scaling a mantissa by a power of ten, walked. Conditions: the scaler's cells; the product's upper half is not zero. -/
import Derived.Test.YtdkccihoecpcaaaGreatFmtShelfF
import Derived.Test.YtdkccihoecpcaaaGreatFmtTouch
import Derived.Test.YtdkccihoecpcaaaGreatFmtShortP
import Derived.Deep.RegionWith
import Derived.Laws.BitsAllLaws
import Derived.Laws.Bits64b
namespace Go.Proofs.YtdkccihoecpcaaaGreatFmt
open Go.RowKit Go
def RetN (v : Value) (w : World) (e : Ending) (w' : World) : Prop := e = .returned v ∧ ∃ n, w' = w.drewN n
theorem mul64 (x y h l : Nat) (hx : x < 18446744073709551616) (hy : y < 18446744073709551616) (eh : x * y / 18446744073709551616 = h) (el : x * y % 18446744073709551616 = l) (w : World) :
    Calls Tryz.prog 200 #[.int .u64 (x : Int), .int .u64 (y : Int)] w (Ret (.tuple #[.int .u64 (h : Int), .int .u64 (l : Int)]) w) := by
  subst eh el
  exact (Tryz.bits_Mul64 x y hx hy w).mono fun e w' ⟨h1, h2⟩ => ⟨h1, h2.symm⟩
theorem bool2u (b : Bool) (w : World) : Calls Tryz.prog 201 #[.bool b] w (Ret (.int .u64 (if b then 1 else 0)) w) := by
  cases b
  all_goals
    go_enter Tryz.func201, Tryz.ntmps201
    go_wp2
    go_ret
    exact ⟨rfl, rfl⟩
theorem ret_u64 {b c : Int} (h : b = c) : Ending.returned (.int .u64 b) = .returned (.int .u64 c) := by rw [h]
theorem u64_wrap (x : Int) (h : 0 ≤ x ∧ x < 18446744073709551616) : IntKind.u64.wrap x = x := by rw [IntKind.wrap_u64]; omega
theorem or1 (a : Nat) (h : a < 18446744073709551616) (b : Nat) (hb : b < 2) : bits .or .u64 (a : Int) (b : Int) = ((a ||| b : Nat) : Int) := by
  exact bits_or_u64_nat a b h (by omega)
theorem and63 (s : Nat) (h : s ≤ 63) : bits .and .i64 (s : Int) 63 = (s : Int) := by
  have key : ∀ x : Fin 64, bits .and .i64 ((x.val : Nat) : Int) 63 = ((x.val : Nat) : Int) := by decide
  exact key ⟨s, by omega⟩
set_option maxRecDepth 100000 in
set_option maxHeartbeats 1600000 in
theorem uscale_any (x hi lo s b : Nat) (w : World) (c0 : w.cell? ⟨b, 0, none⟩ = some (.int .u64 (hi : Int))) (c1 : w.cell? ⟨b, 1, none⟩ = some (.int .u64 (lo : Int))) (c2 : w.cell? ⟨b, 2, none⟩ = some (.int .i64 (s : Int)))
    (hx : x < 18446744073709551616) (hh : hi < 18446744073709551616) (hl : lo < 18446744073709551616) (h1 : 1 ≤ x * hi / 18446744073709551616) (hs : s ≤ 63) :
    Calls Tryz.prog 158 #[.int .u64 (x : Int), .pointer (some ⟨b, 0, none⟩)] w (RetN (.int .u64 (usc x hi lo s : Int)) w) := by
  have hq := quot_lt x hi hx hh
  obtain ⟨h, eh⟩ : ∃ h, x * hi / 18446744073709551616 = h := ⟨_, rfl⟩
  obtain ⟨l, el⟩ : ∃ l, x * hi % 18446744073709551616 = l := ⟨_, rfl⟩
  obtain ⟨g, eg⟩ : ∃ g, x * lo / 18446744073709551616 = g := ⟨_, rfl⟩
  obtain ⟨g2, eg2⟩ : ∃ g2, x * lo % 18446744073709551616 = g2 := ⟨_, rfl⟩
  have HM1 := Lib.hid (mul64 x hi h l hx hh eh el)
  have HM2 := Lib.hid (mul64 x lo g g2 hx hl eg eg2)
  have ha := and63 s hs
  have HU := Lib.hid (show usc x hi lo s = if h / 2 ^ s * 2 ^ s = h then ((if l < g then h - 1 else h) / 2 ^ s) ||| (if 1 < (l + 18446744073709551616 - g) % 18446744073709551616 then 1 else 0) else (h / 2 ^ s) ||| 1 from by unfold usc; rw [eh, el, eg])
  rw [eh] at hq h1
  have hdl := Nat.div_mul_le_self h (2 ^ s)
  have hdv : h / 2 ^ s ≤ h := Nat.div_le_self _ _
  have e1 : IntKind.u64.wrap ((h : Int) / 2 ^ s * 2 ^ s) = ((h / 2 ^ s * 2 ^ s : Nat) : Int) := by
    rw [show (h : Int) / 2 ^ s * 2 ^ s = ((h / 2 ^ s * 2 ^ s : Nat) : Int) from by push_cast; rfl, u64_wrap _ (by omega)]
  have hlw : l < 18446744073709551616 := by
    have := HM1
    rw [← el]
    exact Nat.mod_lt _ (by decide)
  have hgw : g < 18446744073709551616 := by rw [← eg]; exact quot_lt x lo hx hl
  clear eh el eg eg2
  by_cases hd : h / 2 ^ s * 2 ^ s = h
  · have hc : (IntKind.u64.wrap ((h : Int) / 2 ^ s * 2 ^ s) != (h : Int)) = false := by
      rw [e1, hd]
      simp
    rw [if_pos hd] at HU
    clear e1 hd
    by_cases hlg : l < g
    · have e2 : IntKind.u64.wrap ((h : Int) - 1) = ((h - 1 : Nat) : Int) := by rw [u64_wrap _ (by omega)]; omega
      have e3 : IntKind.u64.wrap ((l : Int) - (g : Int)) = ((l + 18446744073709551616 - g : Nat) : Int) := by rw [IntKind.wrap_u64]; omega
      have e4 : (l + 18446744073709551616 - g) % 18446744073709551616 = l + 18446744073709551616 - g := Nat.mod_eq_of_lt (by omega)
      rw [if_pos hlg, e4] at HU
      obtain ⟨q, hq2⟩ : ∃ q, l + 18446744073709551616 - g = q := ⟨_, rfl⟩
      rw [hq2] at HU e3
      clear hq2 e4
      have hor : ∀ c : Nat, c < 2 → bits .or .u64 (((h - 1 : Nat) : Int) / 2 ^ s) (c : Int) = ((((h - 1) / 2 ^ s) ||| c : Nat) : Int) := fun c hc2 => by
        rw [show ((h - 1 : Nat) : Int) / 2 ^ s = (((h - 1) / 2 ^ s : Nat) : Int) from by push_cast; rfl]
        exact or1 _ (by have := Nat.div_le_self (h - 1) (2 ^ s); omega) c hc2
      by_cases hq1 : 1 < q
      · rw [if_pos hq1] at HU
        have HO := Lib.hid (hor 1 (by omega))
        clear hor
        go_enter Tryz.func158, Tryz.ntmps158
        go_wp2_with fail
        go_at_call 200
        refine (HM1.out _).mono ?_
        rintro e w' ⟨rfl, rfl⟩
        go_wp2_with fail
        go_at_call 200
        refine (HM2.out _).mono ?_
        rintro e w' ⟨rfl, rfl⟩
        go_wp2_with (go_at_call 201; refine (bool2u _ _).mono ?_; rintro e w' ⟨rfl, rfl⟩)
        go_region_with (go_at_call 201; refine (bool2u _ _).mono ?_; rintro e w' ⟨rfl, rfl⟩)
        all_goals go_wp2
        all_goals go_ret
        all_goals exact ⟨ret_u64 (by rw [HU.out]; exact HO.out), _, rfl⟩
      · rw [if_neg hq1] at HU
        have HO := Lib.hid (hor 0 (by omega))
        clear hor
        go_enter Tryz.func158, Tryz.ntmps158
        go_wp2_with fail
        go_at_call 200
        refine (HM1.out _).mono ?_
        rintro e w' ⟨rfl, rfl⟩
        go_wp2_with fail
        go_at_call 200
        refine (HM2.out _).mono ?_
        rintro e w' ⟨rfl, rfl⟩
        go_wp2_with (go_at_call 201; refine (bool2u _ _).mono ?_; rintro e w' ⟨rfl, rfl⟩)
        go_region_with (go_at_call 201; refine (bool2u _ _).mono ?_; rintro e w' ⟨rfl, rfl⟩)
        all_goals go_wp2
        all_goals go_ret
        all_goals exact ⟨ret_u64 (by rw [HU.out]; exact HO.out), _, rfl⟩
    · have e3 : IntKind.u64.wrap ((l : Int) - (g : Int)) = ((l - g : Nat) : Int) := by rw [IntKind.wrap_u64]; omega
      have e4 : (l + 18446744073709551616 - g) % 18446744073709551616 = l - g := by omega
      rw [if_neg hlg, e4] at HU
      obtain ⟨q, hq2⟩ : ∃ q, l - g = q := ⟨_, rfl⟩
      rw [hq2] at HU e3
      have e5 : IntKind.u64.wrap ((h : Int) - 0) = (h : Int) := by rw [u64_wrap _ (by omega)]; omega
      have hor : ∀ c : Nat, c < 2 → bits .or .u64 ((h : Int) / 2 ^ s) (c : Int) = (((h / 2 ^ s) ||| c : Nat) : Int) := fun c hc2 => by
        rw [show (h : Int) / 2 ^ s = ((h / 2 ^ s : Nat) : Int) from by push_cast; rfl]
        exact or1 _ (by omega) c hc2
      clear hq2 e4
      by_cases hq1 : 1 < q
      · rw [if_pos hq1] at HU
        have HO := Lib.hid (hor 1 (by omega))
        clear hor
        go_enter Tryz.func158, Tryz.ntmps158
        go_wp2_with fail
        go_at_call 200
        refine (HM1.out _).mono ?_
        rintro e w' ⟨rfl, rfl⟩
        go_wp2_with fail
        go_at_call 200
        refine (HM2.out _).mono ?_
        rintro e w' ⟨rfl, rfl⟩
        go_wp2_with (go_at_call 201; refine (bool2u _ _).mono ?_; rintro e w' ⟨rfl, rfl⟩)
        go_region_with (go_at_call 201; refine (bool2u _ _).mono ?_; rintro e w' ⟨rfl, rfl⟩)
        all_goals go_wp2
        all_goals go_ret
        all_goals exact ⟨ret_u64 (by rw [HU.out]; exact HO.out), _, rfl⟩
      · rw [if_neg hq1] at HU
        have HO := Lib.hid (hor 0 (by omega))
        clear hor
        go_enter Tryz.func158, Tryz.ntmps158
        go_wp2_with fail
        go_at_call 200
        refine (HM1.out _).mono ?_
        rintro e w' ⟨rfl, rfl⟩
        go_wp2_with fail
        go_at_call 200
        refine (HM2.out _).mono ?_
        rintro e w' ⟨rfl, rfl⟩
        go_wp2_with (go_at_call 201; refine (bool2u _ _).mono ?_; rintro e w' ⟨rfl, rfl⟩)
        go_region_with (go_at_call 201; refine (bool2u _ _).mono ?_; rintro e w' ⟨rfl, rfl⟩)
        all_goals go_wp2
        all_goals go_ret
        all_goals exact ⟨ret_u64 (by rw [HU.out]; exact HO.out), _, rfl⟩
  · have hc : (IntKind.u64.wrap ((h : Int) / 2 ^ s * 2 ^ s) != (h : Int)) = true := by
      rw [e1, bne_iff_ne]
      intro e
      exact hd (by exact_mod_cast e)
    rw [if_neg hd] at HU
    have HO := Lib.hid (show bits .or .u64 ((h : Int) / 2 ^ s) 1 = (((h / 2 ^ s) ||| 1 : Nat) : Int) from by
      rw [show (h : Int) / 2 ^ s = ((h / 2 ^ s : Nat) : Int) from by push_cast; rfl]
      exact or1 _ (by omega) 1 (by omega))
    clear e1 hd
    go_enter Tryz.func158, Tryz.ntmps158
    go_wp2_with fail
    go_at_call 200
    refine (HM1.out _).mono ?_
    rintro e w' ⟨rfl, rfl⟩
    go_wp2
    go_ret
    exact ⟨ret_u64 (by rw [HU.out]; exact HO.out), 0, rfl⟩
end Go.Proofs.YtdkccihoecpcaaaGreatFmt
