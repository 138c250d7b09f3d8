/- A float's text, appended to the encoder's empty buffer: the cases joined. Conditions: the point lies within 30 digits (format f), the exponent within 400 (format e). -/
import Derived.Test.YtdkccihoecpcaaaGreatFmtFmB
import Derived.Test.YtdkccihoecpcaaaGreatFmtFmC
import Derived.Test.YtdkccihoecpcaaaGreatFmtFmE
namespace Go.Proofs.YtdkccihoecpcaaaGreatFmt
open Go.RowKit Go
theorem fmtF (neg : Bool) (eb bb : Nat) (dp : Int) (cur : Array Value) (D : List UInt8) (w : World) (hd : Dst eb cur [] w) (hD : Digs32 bb D w) (hne : bb ≠ eb) (h1 : 0 < D.length) (h2 : D.length ≤ 20) (hp1 : -30 ≤ dp) (hp2 : dp ≤ 30) :
    Calls Tryz.prog 128 #[.slice (some ⟨eb, 1, none⟩) 0 64, .bool neg, .slice (some ⟨bb, 0, none⟩) 32 32, .int .i64 dp, .int .i64 (D.length : Int), .int .i64 (max ((D.length : Int) - dp) 0), .int .u8 102, .bool true] w (FmtPost eb cur (fmF neg D dp) w) := by
  by_cases c1 : 0 < dp
  · obtain ⟨p, rfl⟩ := Int.eq_ofNat_of_zero_le (show 0 ≤ dp by omega)
    by_cases c2 : D.length ≤ p
    · rw [show max ((D.length : Int) - (p : Int)) 0 = 0 from by omega]
      cases neg
      · exact fmA_false eb bb D.length p 0 cur [] D w hd hD hne (by omega) c2 h2 (by omega) rfl rfl (by simp; omega)
      · exact fmA_true eb bb D.length p 0 cur [] D w hd hD hne (by omega) c2 h2 (by omega) rfl rfl (by simp; omega)
    · obtain ⟨q, hq⟩ : ∃ q, D.length = p + q := ⟨D.length - p, by omega⟩
      rw [show max ((D.length : Int) - (p : Int)) 0 = (q : Int) from by omega]
      cases neg
      · exact fmB_false eb bb D.length p q 0 cur [] D w hd hD hne (by omega) (by omega) hq h2 rfl rfl (by simp; omega)
      · exact fmB_true eb bb D.length p q 0 cur [] D w hd hD hne (by omega) (by omega) hq h2 rfl rfl (by simp; omega)
  · obtain ⟨z, hz⟩ : ∃ z : Nat, dp = -(z : Int) := ⟨dp.natAbs, by omega⟩
    rw [show max ((D.length : Int) - dp) 0 = ((D.length + z : Nat) : Int) from by omega]
    cases neg
    · exact fmC_false eb bb D.length z _ 0 dp cur [] D w hd hD hne hz h1 rfl h2 rfl rfl (by simp; omega)
    · exact fmC_true eb bb D.length z _ 0 dp cur [] D w hd hD hne hz h1 rfl h2 rfl rfl (by simp; omega)
theorem fmtE (neg : Bool) (eb bb : Nat) (dp : Int) (cur : Array Value) (D : List UInt8) (w : World) (hd : Dst eb cur [] w) (hD : Digs32 bb D w) (hne : bb ≠ eb) (h1 : 0 < D.length) (h2 : D.length ≤ 20) (hp1 : -390 ≤ dp) (hp2 : dp ≤ 390) :
    Calls Tryz.prog 128 #[.slice (some ⟨eb, 1, none⟩) 0 64, .bool neg, .slice (some ⟨bb, 0, none⟩) 32 32, .int .i64 dp, .int .i64 (D.length : Int), .int .i64 (max ((D.length : Int) - 1) 0), .int .u8 101, .bool true] w (FmtPost eb cur (fmE neg D dp) w) := by
  rw [show max ((D.length : Int) - 1) 0 = (D.length : Int) - 1 from by omega]
  by_cases c1 : dp - 1 < 0
  · obtain ⟨x, hx⟩ : ∃ x : Nat, dp - 1 = -(x : Int) := ⟨(dp - 1).natAbs, by omega⟩
    by_cases c2 : D.length = 1
    · cases neg
      · exact fmE_false_1_n eb bb D.length x 0 dp cur [] D w hd hD hne c2 hx (by omega) (by omega) h2 rfl rfl (by simp; omega)
      · exact fmE_true_1_n eb bb D.length x 0 dp cur [] D w hd hD hne c2 hx (by omega) (by omega) h2 rfl rfl (by simp; omega)
    · cases neg
      · exact fmE_false_n eb bb D.length x 0 dp cur [] D w hd hD hne (by omega) hx (by omega) (by omega) h2 rfl rfl (by simp; omega)
      · exact fmE_true_n eb bb D.length x 0 dp cur [] D w hd hD hne (by omega) hx (by omega) (by omega) h2 rfl rfl (by simp; omega)
  · obtain ⟨x, hx⟩ : ∃ x : Nat, dp - 1 = (x : Int) := ⟨(dp - 1).natAbs, by omega⟩
    by_cases c2 : D.length = 1
    · cases neg
      · exact fmE_false_1 eb bb D.length x 0 dp cur [] D w hd hD hne c2 hx (by omega) h2 rfl rfl (by simp; omega)
      · exact fmE_true_1 eb bb D.length x 0 dp cur [] D w hd hD hne c2 hx (by omega) h2 rfl rfl (by simp; omega)
    · cases neg
      · exact fmE_false eb bb D.length x 0 dp cur [] D w hd hD hne (by omega) hx (by omega) h2 rfl rfl (by simp; omega)
      · exact fmE_true eb bb D.length x 0 dp cur [] D w hd hD hne (by omega) hx (by omega) h2 rfl rfl (by simp; omega)
set_option maxRecDepth 100000 in
set_option maxHeartbeats 1600000 in
theorem fmZ_false (eb : Nat) (cur : Array Value) (w : World) (hd : Dst eb cur [] w) :
    Calls Tryz.prog 128 #[.slice (some ⟨eb, 1, none⟩) 0 64, .bool false, .slice none 0 0, .int .i64 0, .int .i64 0, .int .i64 (-1), .int .u8 102, .bool true] w (FmtPost eb cur (sgn false ++ [48]) w) := by
  have HO := Lib.hid (show Dst eb cur [] w ∧ Touch [eb] w w from ⟨hd, Touch.refl _ _⟩)
  clear hd
  go_enter Tryz.func128, Tryz.ntmps128

  go_wp2_with (at_builtin; refine app_new rfl _ _ rfl eb _ _ _ cur _ _ [] [48] _ rfl ?cb2 rfl rfl ?cn2 rfl ?cd2 ?cr2 ?_)
  case cb2 => first | rfl | simp
  case cn2 => rfl
  case cd2 => exact HO.out.1
  case cr2 => simp
  intro w2 hd2 ht2
  have HO2 := Lib.hid (show Dst eb cur [48] w2 ∧ Touch [eb] w w2 from ⟨by first | exact hd2 | simpa using hd2, HO.out.2.trans ht2⟩)
  clear hd2 ht2
  go_wp2
  go_ret
  exact ⟨rfl, HO2.out⟩
set_option maxRecDepth 100000 in
set_option maxHeartbeats 1600000 in
theorem fmZ_true (eb : Nat) (cur : Array Value) (w : World) (hd : Dst eb cur [] w) :
    Calls Tryz.prog 128 #[.slice (some ⟨eb, 1, none⟩) 0 64, .bool true, .slice none 0 0, .int .i64 0, .int .i64 0, .int .i64 (-1), .int .u8 102, .bool true] w (FmtPost eb cur (sgn true ++ [48]) w) := by
  have HO := Lib.hid (show Dst eb cur [] w ∧ Touch [eb] w w from ⟨hd, Touch.refl _ _⟩)
  clear hd
  go_enter Tryz.func128, Tryz.ntmps128
  go_wp2_with (at_builtin; refine app_new rfl _ _ rfl eb _ _ _ cur _ _ [] [45] _ rfl ?cb1 rfl rfl ?cn1 rfl ?cd1 ?cr1 ?_)
  case cb1 => first | rfl | simp
  case cn1 => rfl
  case cd1 => exact HO.out.1
  case cr1 => simp
  intro w1 hd1 ht1
  have HO1 := Lib.hid (show Dst eb cur [45] w1 ∧ Touch [eb] w w1 from ⟨by first | exact hd1 | simpa using hd1, HO.out.2.trans ht1⟩)
  clear hd1 ht1
  go_wp2_with (at_builtin; refine app_new rfl _ _ rfl eb _ _ _ cur _ _ [45] [48] _ rfl ?cb2 rfl rfl ?cn2 rfl ?cd2 ?cr2 ?_)
  case cb2 => first | rfl | simp
  case cn2 => rfl
  case cd2 => exact HO1.out.1
  case cr2 => simp
  intro w2 hd2 ht2
  have HO2 := Lib.hid (show Dst eb cur [45, 48] w2 ∧ Touch [eb] w w2 from ⟨by first | exact hd2 | simpa using hd2, HO1.out.2.trans ht2⟩)
  clear hd2 ht2
  go_wp2
  go_ret
  exact ⟨rfl, HO2.out⟩
end Go.Proofs.YtdkccihoecpcaaaGreatFmt
