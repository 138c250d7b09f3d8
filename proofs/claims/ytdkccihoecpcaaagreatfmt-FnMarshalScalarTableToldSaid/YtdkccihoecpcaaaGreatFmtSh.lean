/- The shortest digits of a float, walked. Conditions: the table of powers of ten lies as the row lists it; the mantissa is moved up. -/
import Derived.Test.YtdkccihoecpcaaaGreatFmtPre
namespace Go.Proofs.YtdkccihoecpcaaaGreatFmt
open Go.RowKit Go
/-- What the walk of the scaled bounds wants to know. -/
structure Scaled (hi lo s mn mx m od dn dx md : Nat) : Prop where
  hh : hi < 18446744073709551616
  hl : lo < 18446744073709551616
  hs : s ≤ 63
  n1 : mn < 18446744073709551616
  n2 : 1 ≤ mn * hi / 18446744073709551616
  x1 : mx < 18446744073709551616
  x2 : 1 ≤ mx * hi / 18446744073709551616
  m1 : m < 18446744073709551616
  m2 : 1 ≤ m * hi / 18446744073709551616
  od1 : od ≤ 1
  tn : usc mn hi lo s ≤ 576460752303423488
  tx : usc mx hi lo s ≤ 576460752303423488
  tm : usc m hi lo s ≤ 576460752303423488
  px : 1 ≤ usc mx hi lo s
  edn : (usc mn hi lo s + od + 3) / 4 = dn
  edx : (usc mx hi lo s - od) / 4 = dx
  emd : (usc m hi lo s + 1 + usc m hi lo s / 4 % 2) / 4 = md
theorem scaled_of {m : Nat} {e : Int} (h : Good m e) : Scaled (tHi (sI m e)) (tLo (sI m e)) (sS m e) (sMin m e) (sMax m e) m (sOdd m e) (dMin m e) (dMax m e) (dMid m e) := by
  obtain ⟨s1, s2, _⟩ := sS_bd h.r
  obtain ⟨i1, _⟩ := sI_bd h.r
  obtain ⟨t1, t2, t3⟩ := tHi_bd i1
  obtain ⟨n1, n2⟩ := good_min h
  have x2 := good_max h
  have hm := h.r.hi
  have hl := h.r.lo
  have x1 : 4611686018427387904 ≤ sMax m e := by unfold sMax; have := Nat.two_pow_pos (sZ e - 1); omega
  have b1 := usc_bd (sMax m e) (tHi (sI m e)) (tLo (sI m e)) (sS m e) x2 t3 (quot_ge _ _ x1 t1)
  exact ⟨t2, t3, by omega, n2, quot_ge _ _ n1 t1, x2, quot_ge _ _ x1 t1, hm, quot_ge _ _ (by omega) t1, by unfold sOdd; omega,
    usc_top _ _ _ _ n2 t2 t3 (quot_ge _ _ n1 t1) s1, usc_top _ _ _ _ x2 t2 t3 (quot_ge _ _ x1 t1) s1, usc_top _ _ _ _ hm t2 t3 (quot_ge _ _ (by omega) t1) s1, b1.2.1, rfl, rfl, rfl⟩
theorem heap_cells {w : World} {b : Nat} {x y z : Value} {t : TypeId} (h : w.heap[b]? = some (.cells #[x, y, z] t (0, 0))) : w.cell? ⟨b, 0, none⟩ = some x ∧ w.cell? ⟨b, 1, none⟩ = some y ∧ w.cell? ⟨b, 2, none⟩ = some z := by
  refine ⟨?_, ?_, ?_⟩ <;> simp [World.cell?, h]
def ShPost (d : Nat) (p : Int) (w : World) (e : Ending) (w' : World) : Prop := e = .returned (.tuple #[.int .u64 (d : Int), .int .i64 p]) ∧ Below w.heap.size w w'
set_option maxRecDepth 100000 in
set_option maxHeartbeats 3200000 in
theorem shB (m hi lo s mn mx od dn dx md : Nat) (e p lp : Int) (w : World) (S : Scaled hi lo s mn mx m od dn dx md) (hA : ((m : Int) == 9223372036854775808) = false) (he : -1085 ≤ e) (he2 : e ≤ 960) (hp1 : -292 ≤ p) (hp2 : p ≤ 324)
    (HK : Hid (∀ w, Calls Tryz.prog 121 #[.int .i64 (e + 11)] w (Ret (.int .i64 (-p)) w)))
    (HL : Hid (∀ w, Calls Tryz.prog 157 #[.int .i64 p] w (Ret (.int .i64 lp) w)))
    (HP : Hid (Calls Tryz.prog 156 #[.pointer (some ⟨w.heap.size, 0, none⟩), .int .i64 e, .int .i64 p, .int .i64 lp] (w.alloc (.cells #[.int .u64 0, .int .u64 0, .int .i64 0] 220)) (PrePost w.heap.size 220 hi lo s (w.alloc (.cells #[.int .u64 0, .int .u64 0, .int .i64 0] 220)))))
    (rd : Nat) (rp : Int) (hrd : rd = if dn ≤ dx / 10 * 10 then dx / 10 else if dn < dx then md else dn) (hrp : rp = if dn ≤ dx / 10 * 10 then -(p - 1) else -p) (hmn : IntKind.u64.wrap ((m : Int) - 1024) = (mn : Int)) (hmx : IntKind.u64.wrap ((m : Int) + 1024) = (mx : Int)) (hod : bits .and .i64 (wrap64 ((m : Int) / 2048)) 1 = (od : Int)) :
    Calls Tryz.prog 135 #[.int .u64 (m : Int), .int .i64 e] w (ShPost rd rp w) := by
  obtain ⟨hh, hl, hs, n1, n2, x1, x2, m1, m2, od1, tn, tx, tm, px, edn, edx, emd⟩ := S
  have HUn := Lib.hid (fun (W : World) c0 c1 c2 => uscale_any mn hi lo s w.heap.size W c0 c1 c2 n1 hh hl n2 hs)
  have HUx := Lib.hid (fun (W : World) c0 c1 c2 => uscale_any mx hi lo s w.heap.size W c0 c1 c2 x1 hh hl x2 hs)
  have HUm := Lib.hid (fun (W : World) c0 c1 c2 => uscale_any m hi lo s w.heap.size W c0 c1 c2 m1 hh hl m2 hs)
  have hb1 : dx ≤ 144115188075855873 := by omega
  have hb2 : dn ≤ 144115188075855873 := by omega
  have HN1 := Lib.hid (nudge_any (usc mn hi lo s) (od : Int) ((usc mn hi lo s + od : Nat) : Int) (by push_cast; rfl) (by omega) (by omega) (by omega))
  have HC := Lib.hid (ceil_any (usc mn hi lo s + od) (by omega))
  have HN2 := Lib.hid (nudge_any (usc mx hi lo s) (-(od : Int)) ((usc mx hi lo s - od : Nat) : Int) (by omega) (by omega) (by omega) (by omega))
  have HF := Lib.hid (floor_any (usc mx hi lo s - od) (by omega))
  have HR := Lib.hid (round_any (usc m hi lo s) (by omega))
  rw [edn] at HC
  rw [edx] at HF
  rw [emd] at HR
  have q1 : (dx : Int) / 10 = ((dx / 10 : Nat) : Int) := by omega
  obtain ⟨q, hq⟩ : ∃ q, dx / 10 = q := ⟨_, rfl⟩
  rw [hq] at q1 hrd hrp
  have HRd := Lib.hid hrd
  have HRp := Lib.hid hrp
  clear hrd hrp
  have hq2 : q ≤ 144115188075855873 := by omega
  have q3 : IntKind.u64.wrap ((q : Int) * 10) = (q : Int) * 10 := u64_wrap _ (by omega)
  have HBl := Lib.hid (show Below w.heap.size w (w.alloc (.cells #[.int .u64 0, .int .u64 0, .int .i64 0] 220)) from (Below.refl _ _).alloc (Nat.le_refl _) _)
  clear edn edx emd hq n1 n2 x1 x2 m1 m2 tn tx tm px hh hl hs
  go_enter Tryz.func135, Tryz.ntmps135
  go_wp2_with (first
    | (go_at_call 121; refine (HK.out _).mono ?_; rintro e w' ⟨rfl, rfl⟩)
    | (go_at_call 157; refine (HL.out _).mono ?_; rintro e w' ⟨rfl, rfl⟩))
  try go_at_call 156
  refine HP.out.mono ?_
  rintro e w1 ⟨rfl, hr, ht⟩
  obtain ⟨k0, k1, k2⟩ := heap_cells hr
  have K0 := Lib.hid k0
  have K1 := Lib.hid k1
  have K2 := Lib.hid k2
  have HB1 := Lib.hid (show Below w.heap.size w w1 from HBl.out.trans (ht.below (by simp) (by simp)))
  clear hr ht k0 k1 k2 HK HL HP HBl
  go_wp2_with fail
  try go_at_call 158
  refine (HUn.out _ K0.out K1.out K2.out).mono ?_
  rintro e w2 ⟨rfl, a1, rfl⟩
  go_wp2_with fail
  try go_at_call 159
  refine (HN1.out _).mono ?_
  rintro e w' ⟨rfl, rfl⟩
  go_wp2_with fail
  try go_at_call 160
  refine (HC.out _).mono ?_
  rintro e w' ⟨rfl, rfl⟩
  go_wp2_with fail
  try go_at_call 158
  refine (HUx.out (w1.drewN a1) K0.out K1.out K2.out).mono ?_
  rintro e w2 ⟨rfl, a2, rfl⟩
  go_wp2_with fail
  try go_at_call 159
  refine (HN2.out _).mono ?_
  rintro e w' ⟨rfl, rfl⟩
  go_wp2_with fail
  try go_at_call 161
  refine (HF.out _).mono ?_
  rintro e w' ⟨rfl, rfl⟩
  clear HUn HUx HN1 HN2 HC HF
  by_cases c1 : dn ≤ q * 10
  · go_wp2
    go_ret2
    exact ⟨by rw [HRd.out, HRp.out, if_pos c1, if_pos c1]; rfl, HB1.out.trans ⟨rfl, rfl, rfl, Nat.le_refl _, fun _ _ => rfl⟩⟩
  · by_cases c2 : dn < dx
    · go_wp2_with fail
      try go_at_call 158
      first | refine (HUm.out ((w1.drewN a1).drewN a2) K0.out K1.out K2.out).mono ?_ | refine (HUm.out (w1.drewN (a1 + a2)) K0.out K1.out K2.out).mono ?_
      rintro e w2 ⟨rfl, a3, rfl⟩
      go_wp2_with fail
      try go_at_call 162
      refine (HR.out _).mono ?_
      rintro e w' ⟨rfl, rfl⟩
      go_wp2
      go_ret2
      exact ⟨by rw [HRd.out, HRp.out, if_neg c1, if_neg c1, if_pos c2]; rfl, HB1.out.trans ⟨rfl, rfl, rfl, Nat.le_refl _, fun _ _ => rfl⟩⟩
    · go_wp2
      go_ret2
      exact ⟨by rw [HRd.out, HRp.out, if_neg c1, if_neg c1, if_neg c2]; rfl, HB1.out.trans ⟨rfl, rfl, rfl, Nat.le_refl _, fun _ _ => rfl⟩⟩
set_option maxRecDepth 100000 in
set_option maxHeartbeats 3200000 in
theorem shC (m hi lo s mn mx od dn dx md : Nat) (e p lp : Int) (w : World) (S : Scaled hi lo s mn mx m od dn dx md) (y : Nat) (hA : ((m : Int) == 9223372036854775808) = false) (he : e < -1085) (he2 : -1137 ≤ e) (hz : 11 + (-1085 - e) = (y : Int) + 1) (hz2 : e + ((y : Int) + 1) = -1074) (hp1 : -292 ≤ p) (hp2 : p ≤ 324)
    (HK : Hid (∀ w, Calls Tryz.prog 121 #[.int .i64 (-1074)] w (Ret (.int .i64 (-p)) w)))
    (HL : Hid (∀ w, Calls Tryz.prog 157 #[.int .i64 p] w (Ret (.int .i64 lp) w)))
    (HP : Hid (Calls Tryz.prog 156 #[.pointer (some ⟨w.heap.size, 0, none⟩), .int .i64 e, .int .i64 p, .int .i64 lp] (w.alloc (.cells #[.int .u64 0, .int .u64 0, .int .i64 0] 220)) (PrePost w.heap.size 220 hi lo s (w.alloc (.cells #[.int .u64 0, .int .u64 0, .int .i64 0] 220)))))
    (rd : Nat) (rp : Int) (hrd : rd = if dn ≤ dx / 10 * 10 then dx / 10 else if dn < dx then md else dn) (hrp : rp = if dn ≤ dx / 10 * 10 then -(p - 1) else -p) (hmn : IntKind.u64.wrap ((m : Int) - IntKind.u64.wrap (2 ^ y)) = (mn : Int)) (hmx : IntKind.u64.wrap ((m : Int) + IntKind.u64.wrap (2 ^ y)) = (mx : Int)) (hod : bits .and .i64 (wrap64 ((m : Int) / 2 ^ (y + 1))) 1 = (od : Int)) :
    Calls Tryz.prog 135 #[.int .u64 (m : Int), .int .i64 e] w (ShPost rd rp w) := by
  obtain ⟨hh, hl, hs, n1, n2, x1, x2, m1, m2, od1, tn, tx, tm, px, edn, edx, emd⟩ := S
  have HUn := Lib.hid (fun (W : World) c0 c1 c2 => uscale_any mn hi lo s w.heap.size W c0 c1 c2 n1 hh hl n2 hs)
  have HUx := Lib.hid (fun (W : World) c0 c1 c2 => uscale_any mx hi lo s w.heap.size W c0 c1 c2 x1 hh hl x2 hs)
  have HUm := Lib.hid (fun (W : World) c0 c1 c2 => uscale_any m hi lo s w.heap.size W c0 c1 c2 m1 hh hl m2 hs)
  have hb1 : dx ≤ 144115188075855873 := by omega
  have hb2 : dn ≤ 144115188075855873 := by omega
  have HN1 := Lib.hid (nudge_any (usc mn hi lo s) (od : Int) ((usc mn hi lo s + od : Nat) : Int) (by push_cast; rfl) (by omega) (by omega) (by omega))
  have HC := Lib.hid (ceil_any (usc mn hi lo s + od) (by omega))
  have HN2 := Lib.hid (nudge_any (usc mx hi lo s) (-(od : Int)) ((usc mx hi lo s - od : Nat) : Int) (by omega) (by omega) (by omega) (by omega))
  have HF := Lib.hid (floor_any (usc mx hi lo s - od) (by omega))
  have HR := Lib.hid (round_any (usc m hi lo s) (by omega))
  rw [edn] at HC
  rw [edx] at HF
  rw [emd] at HR
  have q1 : (dx : Int) / 10 = ((dx / 10 : Nat) : Int) := by omega
  obtain ⟨q, hq⟩ : ∃ q, dx / 10 = q := ⟨_, rfl⟩
  rw [hq] at q1 hrd hrp
  have HRd := Lib.hid hrd
  have HRp := Lib.hid hrp
  clear hrd hrp
  have hq2 : q ≤ 144115188075855873 := by omega
  have q3 : IntKind.u64.wrap ((q : Int) * 10) = (q : Int) * 10 := u64_wrap _ (by omega)
  have HBl := Lib.hid (show Below w.heap.size w (w.alloc (.cells #[.int .u64 0, .int .u64 0, .int .i64 0] 220)) from (Below.refl _ _).alloc (Nat.le_refl _) _)
  clear edn edx emd hq n1 n2 x1 x2 m1 m2 tn tx tm px hh hl hs
  go_enter Tryz.func135, Tryz.ntmps135
  go_wp2_with (first
    | (go_at_call 121; refine (HK.out _).mono ?_; rintro e w' ⟨rfl, rfl⟩)
    | (go_at_call 157; refine (HL.out _).mono ?_; rintro e w' ⟨rfl, rfl⟩))
  try go_at_call 156
  refine HP.out.mono ?_
  rintro e w1 ⟨rfl, hr, ht⟩
  obtain ⟨k0, k1, k2⟩ := heap_cells hr
  have K0 := Lib.hid k0
  have K1 := Lib.hid k1
  have K2 := Lib.hid k2
  have HB1 := Lib.hid (show Below w.heap.size w w1 from HBl.out.trans (ht.below (by simp) (by simp)))
  clear hr ht k0 k1 k2 HK HL HP HBl
  go_wp2_with fail
  try go_at_call 158
  refine (HUn.out _ K0.out K1.out K2.out).mono ?_
  rintro e w2 ⟨rfl, a1, rfl⟩
  go_wp2_with fail
  try go_at_call 159
  refine (HN1.out _).mono ?_
  rintro e w' ⟨rfl, rfl⟩
  go_wp2_with fail
  try go_at_call 160
  refine (HC.out _).mono ?_
  rintro e w' ⟨rfl, rfl⟩
  go_wp2_with fail
  try go_at_call 158
  refine (HUx.out (w1.drewN a1) K0.out K1.out K2.out).mono ?_
  rintro e w2 ⟨rfl, a2, rfl⟩
  go_wp2_with fail
  try go_at_call 159
  refine (HN2.out _).mono ?_
  rintro e w' ⟨rfl, rfl⟩
  go_wp2_with fail
  try go_at_call 161
  refine (HF.out _).mono ?_
  rintro e w' ⟨rfl, rfl⟩
  clear HUn HUx HN1 HN2 HC HF
  by_cases c1 : dn ≤ q * 10
  · go_wp2
    go_ret2
    exact ⟨by rw [HRd.out, HRp.out, if_pos c1, if_pos c1]; rfl, HB1.out.trans ⟨rfl, rfl, rfl, Nat.le_refl _, fun _ _ => rfl⟩⟩
  · by_cases c2 : dn < dx
    · go_wp2_with fail
      try go_at_call 158
      first | refine (HUm.out ((w1.drewN a1).drewN a2) K0.out K1.out K2.out).mono ?_ | refine (HUm.out (w1.drewN (a1 + a2)) K0.out K1.out K2.out).mono ?_
      rintro e w2 ⟨rfl, a3, rfl⟩
      go_wp2_with fail
      try go_at_call 162
      refine (HR.out _).mono ?_
      rintro e w' ⟨rfl, rfl⟩
      go_wp2
      go_ret2
      exact ⟨by rw [HRd.out, HRp.out, if_neg c1, if_neg c1, if_pos c2]; rfl, HB1.out.trans ⟨rfl, rfl, rfl, Nat.le_refl _, fun _ _ => rfl⟩⟩
    · go_wp2
      go_ret2
      exact ⟨by rw [HRd.out, HRp.out, if_neg c1, if_neg c1, if_neg c2]; rfl, HB1.out.trans ⟨rfl, rfl, rfl, Nat.le_refl _, fun _ _ => rfl⟩⟩
set_option maxRecDepth 100000 in
set_option maxHeartbeats 3200000 in
theorem shB2 (m hi lo s mn mx od dn dx md : Nat) (e p lp : Int) (w : World) (S : Scaled hi lo s mn mx m od dn dx md) (hm : (m : Int) = 9223372036854775808) (he : -1085 ≤ e) (he2 : e ≤ -1085) (hp1 : -292 ≤ p) (hp2 : p ≤ 324)
    (HK : Hid (∀ w, Calls Tryz.prog 121 #[.int .i64 (e + 11)] w (Ret (.int .i64 (-p)) w)))
    (HL : Hid (∀ w, Calls Tryz.prog 157 #[.int .i64 p] w (Ret (.int .i64 lp) w)))
    (HP : Hid (Calls Tryz.prog 156 #[.pointer (some ⟨w.heap.size, 0, none⟩), .int .i64 e, .int .i64 p, .int .i64 lp] (w.alloc (.cells #[.int .u64 0, .int .u64 0, .int .i64 0] 220)) (PrePost w.heap.size 220 hi lo s (w.alloc (.cells #[.int .u64 0, .int .u64 0, .int .i64 0] 220)))))
    (rd : Nat) (rp : Int) (hrd : rd = if dn ≤ dx / 10 * 10 then dx / 10 else if dn < dx then md else dn) (hrp : rp = if dn ≤ dx / 10 * 10 then -(p - 1) else -p) (hmn : (9223372036854774784 : Int) = (mn : Int)) (hmx : (9223372036854776832 : Int) = (mx : Int)) (hod : bits .and .i64 4503599627370496 1 = (od : Int)) :
    Calls Tryz.prog 135 #[.int .u64 9223372036854775808, .int .i64 e] w (ShPost rd rp w) := by
  obtain ⟨hh, hl, hs, n1, n2, x1, x2, m1, m2, od1, tn, tx, tm, px, edn, edx, emd⟩ := S
  have HUn := Lib.hid (fun (W : World) c0 c1 c2 => uscale_any mn hi lo s w.heap.size W c0 c1 c2 n1 hh hl n2 hs)
  have HUx := Lib.hid (fun (W : World) c0 c1 c2 => uscale_any mx hi lo s w.heap.size W c0 c1 c2 x1 hh hl x2 hs)
  have HUm := Lib.hid (fun (W : World) c0 c1 c2 => uscale_any m hi lo s w.heap.size W c0 c1 c2 m1 hh hl m2 hs)
  simp only [hm] at HUm
  clear hm
  have hb1 : dx ≤ 144115188075855873 := by omega
  have hb2 : dn ≤ 144115188075855873 := by omega
  have HN1 := Lib.hid (nudge_any (usc mn hi lo s) (od : Int) ((usc mn hi lo s + od : Nat) : Int) (by push_cast; rfl) (by omega) (by omega) (by omega))
  have HC := Lib.hid (ceil_any (usc mn hi lo s + od) (by omega))
  have HN2 := Lib.hid (nudge_any (usc mx hi lo s) (-(od : Int)) ((usc mx hi lo s - od : Nat) : Int) (by omega) (by omega) (by omega) (by omega))
  have HF := Lib.hid (floor_any (usc mx hi lo s - od) (by omega))
  have HR := Lib.hid (round_any (usc m hi lo s) (by omega))
  rw [edn] at HC
  rw [edx] at HF
  rw [emd] at HR
  have q1 : (dx : Int) / 10 = ((dx / 10 : Nat) : Int) := by omega
  obtain ⟨q, hq⟩ : ∃ q, dx / 10 = q := ⟨_, rfl⟩
  rw [hq] at q1 hrd hrp
  have HRd := Lib.hid hrd
  have HRp := Lib.hid hrp
  clear hrd hrp
  have hq2 : q ≤ 144115188075855873 := by omega
  have q3 : IntKind.u64.wrap ((q : Int) * 10) = (q : Int) * 10 := u64_wrap _ (by omega)
  have HBl := Lib.hid (show Below w.heap.size w (w.alloc (.cells #[.int .u64 0, .int .u64 0, .int .i64 0] 220)) from (Below.refl _ _).alloc (Nat.le_refl _) _)
  clear edn edx emd hq n1 n2 x1 x2 m1 m2 tn tx tm px hh hl hs
  go_enter Tryz.func135, Tryz.ntmps135
  go_wp2_with (first
    | (go_at_call 121; refine (HK.out _).mono ?_; rintro e w' ⟨rfl, rfl⟩)
    | (go_at_call 157; refine (HL.out _).mono ?_; rintro e w' ⟨rfl, rfl⟩))
  try go_at_call 156
  refine HP.out.mono ?_
  rintro e w1 ⟨rfl, hr, ht⟩
  obtain ⟨k0, k1, k2⟩ := heap_cells hr
  have K0 := Lib.hid k0
  have K1 := Lib.hid k1
  have K2 := Lib.hid k2
  have HB1 := Lib.hid (show Below w.heap.size w w1 from HBl.out.trans (ht.below (by simp) (by simp)))
  clear hr ht k0 k1 k2 HK HL HP HBl
  go_wp2_with fail
  try go_at_call 158
  refine (HUn.out _ K0.out K1.out K2.out).mono ?_
  rintro e w2 ⟨rfl, a1, rfl⟩
  go_wp2_with fail
  try go_at_call 159
  refine (HN1.out _).mono ?_
  rintro e w' ⟨rfl, rfl⟩
  go_wp2_with fail
  try go_at_call 160
  refine (HC.out _).mono ?_
  rintro e w' ⟨rfl, rfl⟩
  go_wp2_with fail
  try go_at_call 158
  refine (HUx.out (w1.drewN a1) K0.out K1.out K2.out).mono ?_
  rintro e w2 ⟨rfl, a2, rfl⟩
  go_wp2_with fail
  try go_at_call 159
  refine (HN2.out _).mono ?_
  rintro e w' ⟨rfl, rfl⟩
  go_wp2_with fail
  try go_at_call 161
  refine (HF.out _).mono ?_
  rintro e w' ⟨rfl, rfl⟩
  clear HUn HUx HN1 HN2 HC HF
  by_cases c1 : dn ≤ q * 10
  · go_wp2
    go_ret2
    exact ⟨by rw [HRd.out, HRp.out, if_pos c1, if_pos c1]; rfl, HB1.out.trans ⟨rfl, rfl, rfl, Nat.le_refl _, fun _ _ => rfl⟩⟩
  · by_cases c2 : dn < dx
    · go_wp2_with fail
      try go_at_call 158
      first | refine (HUm.out ((w1.drewN a1).drewN a2) K0.out K1.out K2.out).mono ?_ | refine (HUm.out (w1.drewN (a1 + a2)) K0.out K1.out K2.out).mono ?_
      rintro e w2 ⟨rfl, a3, rfl⟩
      go_wp2_with fail
      try go_at_call 162
      refine (HR.out _).mono ?_
      rintro e w' ⟨rfl, rfl⟩
      go_wp2
      go_ret2
      exact ⟨by rw [HRd.out, HRp.out, if_neg c1, if_neg c1, if_pos c2]; rfl, HB1.out.trans ⟨rfl, rfl, rfl, Nat.le_refl _, fun _ _ => rfl⟩⟩
    · go_wp2
      go_ret2
      exact ⟨by rw [HRd.out, HRp.out, if_neg c1, if_neg c1, if_neg c2]; rfl, HB1.out.trans ⟨rfl, rfl, rfl, Nat.le_refl _, fun _ _ => rfl⟩⟩
set_option maxRecDepth 100000 in
set_option maxHeartbeats 3200000 in
theorem shC2 (m hi lo s mn mx od dn dx md : Nat) (e p lp : Int) (w : World) (S : Scaled hi lo s mn mx m od dn dx md) (y : Nat) (hm : (m : Int) = 9223372036854775808) (he : e < -1085) (he2 : -1137 ≤ e) (hz : 11 + (-1085 - e) = (y : Int) + 1) (hz2 : e + ((y : Int) + 1) = -1074) (hp1 : -292 ≤ p) (hp2 : p ≤ 324)
    (HK : Hid (∀ w, Calls Tryz.prog 121 #[.int .i64 (-1074)] w (Ret (.int .i64 (-p)) w)))
    (HL : Hid (∀ w, Calls Tryz.prog 157 #[.int .i64 p] w (Ret (.int .i64 lp) w)))
    (HP : Hid (Calls Tryz.prog 156 #[.pointer (some ⟨w.heap.size, 0, none⟩), .int .i64 e, .int .i64 p, .int .i64 lp] (w.alloc (.cells #[.int .u64 0, .int .u64 0, .int .i64 0] 220)) (PrePost w.heap.size 220 hi lo s (w.alloc (.cells #[.int .u64 0, .int .u64 0, .int .i64 0] 220)))))
    (rd : Nat) (rp : Int) (hrd : rd = if dn ≤ dx / 10 * 10 then dx / 10 else if dn < dx then md else dn) (hrp : rp = if dn ≤ dx / 10 * 10 then -(p - 1) else -p) (hmn : IntKind.u64.wrap (9223372036854775808 - IntKind.u64.wrap (2 ^ y)) = (mn : Int)) (hmx : IntKind.u64.wrap (9223372036854775808 + IntKind.u64.wrap (2 ^ y)) = (mx : Int)) (hod : bits .and .i64 (wrap64 (9223372036854775808 / 2 ^ (y + 1))) 1 = (od : Int)) :
    Calls Tryz.prog 135 #[.int .u64 9223372036854775808, .int .i64 e] w (ShPost rd rp w) := by
  obtain ⟨hh, hl, hs, n1, n2, x1, x2, m1, m2, od1, tn, tx, tm, px, edn, edx, emd⟩ := S
  have HUn := Lib.hid (fun (W : World) c0 c1 c2 => uscale_any mn hi lo s w.heap.size W c0 c1 c2 n1 hh hl n2 hs)
  have HUx := Lib.hid (fun (W : World) c0 c1 c2 => uscale_any mx hi lo s w.heap.size W c0 c1 c2 x1 hh hl x2 hs)
  have HUm := Lib.hid (fun (W : World) c0 c1 c2 => uscale_any m hi lo s w.heap.size W c0 c1 c2 m1 hh hl m2 hs)
  simp only [hm] at HUm
  clear hm
  have hb1 : dx ≤ 144115188075855873 := by omega
  have hb2 : dn ≤ 144115188075855873 := by omega
  have HN1 := Lib.hid (nudge_any (usc mn hi lo s) (od : Int) ((usc mn hi lo s + od : Nat) : Int) (by push_cast; rfl) (by omega) (by omega) (by omega))
  have HC := Lib.hid (ceil_any (usc mn hi lo s + od) (by omega))
  have HN2 := Lib.hid (nudge_any (usc mx hi lo s) (-(od : Int)) ((usc mx hi lo s - od : Nat) : Int) (by omega) (by omega) (by omega) (by omega))
  have HF := Lib.hid (floor_any (usc mx hi lo s - od) (by omega))
  have HR := Lib.hid (round_any (usc m hi lo s) (by omega))
  rw [edn] at HC
  rw [edx] at HF
  rw [emd] at HR
  have q1 : (dx : Int) / 10 = ((dx / 10 : Nat) : Int) := by omega
  obtain ⟨q, hq⟩ : ∃ q, dx / 10 = q := ⟨_, rfl⟩
  rw [hq] at q1 hrd hrp
  have HRd := Lib.hid hrd
  have HRp := Lib.hid hrp
  clear hrd hrp
  have hq2 : q ≤ 144115188075855873 := by omega
  have q3 : IntKind.u64.wrap ((q : Int) * 10) = (q : Int) * 10 := u64_wrap _ (by omega)
  have HBl := Lib.hid (show Below w.heap.size w (w.alloc (.cells #[.int .u64 0, .int .u64 0, .int .i64 0] 220)) from (Below.refl _ _).alloc (Nat.le_refl _) _)
  clear edn edx emd hq n1 n2 x1 x2 m1 m2 tn tx tm px hh hl hs
  go_enter Tryz.func135, Tryz.ntmps135
  go_wp2_with (first
    | (go_at_call 121; refine (HK.out _).mono ?_; rintro e w' ⟨rfl, rfl⟩)
    | (go_at_call 157; refine (HL.out _).mono ?_; rintro e w' ⟨rfl, rfl⟩))
  try go_at_call 156
  refine HP.out.mono ?_
  rintro e w1 ⟨rfl, hr, ht⟩
  obtain ⟨k0, k1, k2⟩ := heap_cells hr
  have K0 := Lib.hid k0
  have K1 := Lib.hid k1
  have K2 := Lib.hid k2
  have HB1 := Lib.hid (show Below w.heap.size w w1 from HBl.out.trans (ht.below (by simp) (by simp)))
  clear hr ht k0 k1 k2 HK HL HP HBl
  go_wp2_with fail
  try go_at_call 158
  refine (HUn.out _ K0.out K1.out K2.out).mono ?_
  rintro e w2 ⟨rfl, a1, rfl⟩
  go_wp2_with fail
  try go_at_call 159
  refine (HN1.out _).mono ?_
  rintro e w' ⟨rfl, rfl⟩
  go_wp2_with fail
  try go_at_call 160
  refine (HC.out _).mono ?_
  rintro e w' ⟨rfl, rfl⟩
  go_wp2_with fail
  try go_at_call 158
  refine (HUx.out (w1.drewN a1) K0.out K1.out K2.out).mono ?_
  rintro e w2 ⟨rfl, a2, rfl⟩
  go_wp2_with fail
  try go_at_call 159
  refine (HN2.out _).mono ?_
  rintro e w' ⟨rfl, rfl⟩
  go_wp2_with fail
  try go_at_call 161
  refine (HF.out _).mono ?_
  rintro e w' ⟨rfl, rfl⟩
  clear HUn HUx HN1 HN2 HC HF
  by_cases c1 : dn ≤ q * 10
  · go_wp2
    go_ret2
    exact ⟨by rw [HRd.out, HRp.out, if_pos c1, if_pos c1]; rfl, HB1.out.trans ⟨rfl, rfl, rfl, Nat.le_refl _, fun _ _ => rfl⟩⟩
  · by_cases c2 : dn < dx
    · go_wp2_with fail
      try go_at_call 158
      first | refine (HUm.out ((w1.drewN a1).drewN a2) K0.out K1.out K2.out).mono ?_ | refine (HUm.out (w1.drewN (a1 + a2)) K0.out K1.out K2.out).mono ?_
      rintro e w2 ⟨rfl, a3, rfl⟩
      go_wp2_with fail
      try go_at_call 162
      refine (HR.out _).mono ?_
      rintro e w' ⟨rfl, rfl⟩
      go_wp2
      go_ret2
      exact ⟨by rw [HRd.out, HRp.out, if_neg c1, if_neg c1, if_pos c2]; rfl, HB1.out.trans ⟨rfl, rfl, rfl, Nat.le_refl _, fun _ _ => rfl⟩⟩
    · go_wp2
      go_ret2
      exact ⟨by rw [HRd.out, HRp.out, if_neg c1, if_neg c1, if_neg c2]; rfl, HB1.out.trans ⟨rfl, rfl, rfl, Nat.le_refl _, fun _ _ => rfl⟩⟩
set_option maxRecDepth 100000 in
set_option maxHeartbeats 3200000 in
theorem shA (m hi lo s mn mx od dn dx md : Nat) (e p lp : Int) (w : World) (S : Scaled hi lo s mn mx m od dn dx md) (hm : (m : Int) = 9223372036854775808) (he : -1085 < e) (he2 : e ≤ 960) (hp1 : -292 ≤ p) (hp2 : p ≤ 324)
    (HK : Hid (∀ w, Calls Tryz.prog 155 #[.int .i64 (e + 11)] w (Ret (.int .i64 (-p)) w)))
    (HL : Hid (∀ w, Calls Tryz.prog 157 #[.int .i64 p] w (Ret (.int .i64 lp) w)))
    (HP : Hid (Calls Tryz.prog 156 #[.pointer (some ⟨w.heap.size, 0, none⟩), .int .i64 e, .int .i64 p, .int .i64 lp] (w.alloc (.cells #[.int .u64 0, .int .u64 0, .int .i64 0] 220)) (PrePost w.heap.size 220 hi lo s (w.alloc (.cells #[.int .u64 0, .int .u64 0, .int .i64 0] 220)))))
    (rd : Nat) (rp : Int) (hrd : rd = if dn ≤ dx / 10 * 10 then dx / 10 else if dn < dx then md else dn) (hrp : rp = if dn ≤ dx / 10 * 10 then -(p - 1) else -p) (hmn : (9223372036854775296 : Int) = (mn : Int)) (hmx : (9223372036854776832 : Int) = (mx : Int)) (hod : bits .and .i64 4503599627370496 1 = (od : Int)) :
    Calls Tryz.prog 135 #[.int .u64 9223372036854775808, .int .i64 e] w (ShPost rd rp w) := by
  obtain ⟨hh, hl, hs, n1, n2, x1, x2, m1, m2, od1, tn, tx, tm, px, edn, edx, emd⟩ := S
  have HUn := Lib.hid (fun (W : World) c0 c1 c2 => uscale_any mn hi lo s w.heap.size W c0 c1 c2 n1 hh hl n2 hs)
  have HUx := Lib.hid (fun (W : World) c0 c1 c2 => uscale_any mx hi lo s w.heap.size W c0 c1 c2 x1 hh hl x2 hs)
  have HUm := Lib.hid (fun (W : World) c0 c1 c2 => uscale_any m hi lo s w.heap.size W c0 c1 c2 m1 hh hl m2 hs)
  simp only [hm] at HUm
  clear hm
  have hb1 : dx ≤ 144115188075855873 := by omega
  have hb2 : dn ≤ 144115188075855873 := by omega
  have HN1 := Lib.hid (nudge_any (usc mn hi lo s) (od : Int) ((usc mn hi lo s + od : Nat) : Int) (by push_cast; rfl) (by omega) (by omega) (by omega))
  have HC := Lib.hid (ceil_any (usc mn hi lo s + od) (by omega))
  have HN2 := Lib.hid (nudge_any (usc mx hi lo s) (-(od : Int)) ((usc mx hi lo s - od : Nat) : Int) (by omega) (by omega) (by omega) (by omega))
  have HF := Lib.hid (floor_any (usc mx hi lo s - od) (by omega))
  have HR := Lib.hid (round_any (usc m hi lo s) (by omega))
  rw [edn] at HC
  rw [edx] at HF
  rw [emd] at HR
  have q1 : (dx : Int) / 10 = ((dx / 10 : Nat) : Int) := by omega
  obtain ⟨q, hq⟩ : ∃ q, dx / 10 = q := ⟨_, rfl⟩
  rw [hq] at q1 hrd hrp
  have HRd := Lib.hid hrd
  have HRp := Lib.hid hrp
  clear hrd hrp
  have hq2 : q ≤ 144115188075855873 := by omega
  have q3 : IntKind.u64.wrap ((q : Int) * 10) = (q : Int) * 10 := u64_wrap _ (by omega)
  have HBl := Lib.hid (show Below w.heap.size w (w.alloc (.cells #[.int .u64 0, .int .u64 0, .int .i64 0] 220)) from (Below.refl _ _).alloc (Nat.le_refl _) _)
  clear edn edx emd hq n1 n2 x1 x2 m1 m2 tn tx tm px hh hl hs
  go_enter Tryz.func135, Tryz.ntmps135
  go_wp2_with (first
    | (go_at_call 155; refine (HK.out _).mono ?_; rintro e w' ⟨rfl, rfl⟩)
    | (go_at_call 157; refine (HL.out _).mono ?_; rintro e w' ⟨rfl, rfl⟩))
  try go_at_call 156
  refine HP.out.mono ?_
  rintro e w1 ⟨rfl, hr, ht⟩
  obtain ⟨k0, k1, k2⟩ := heap_cells hr
  have K0 := Lib.hid k0
  have K1 := Lib.hid k1
  have K2 := Lib.hid k2
  have HB1 := Lib.hid (show Below w.heap.size w w1 from HBl.out.trans (ht.below (by simp) (by simp)))
  clear hr ht k0 k1 k2 HK HL HP HBl
  go_wp2_with fail
  try go_at_call 158
  refine (HUn.out _ K0.out K1.out K2.out).mono ?_
  rintro e w2 ⟨rfl, a1, rfl⟩
  go_wp2_with fail
  try go_at_call 159
  refine (HN1.out _).mono ?_
  rintro e w' ⟨rfl, rfl⟩
  go_wp2_with fail
  try go_at_call 160
  refine (HC.out _).mono ?_
  rintro e w' ⟨rfl, rfl⟩
  go_wp2_with fail
  try go_at_call 158
  refine (HUx.out (w1.drewN a1) K0.out K1.out K2.out).mono ?_
  rintro e w2 ⟨rfl, a2, rfl⟩
  go_wp2_with fail
  try go_at_call 159
  refine (HN2.out _).mono ?_
  rintro e w' ⟨rfl, rfl⟩
  go_wp2_with fail
  try go_at_call 161
  refine (HF.out _).mono ?_
  rintro e w' ⟨rfl, rfl⟩
  clear HUn HUx HN1 HN2 HC HF
  by_cases c1 : dn ≤ q * 10
  · go_wp2
    go_ret2
    exact ⟨by rw [HRd.out, HRp.out, if_pos c1, if_pos c1]; rfl, HB1.out.trans ⟨rfl, rfl, rfl, Nat.le_refl _, fun _ _ => rfl⟩⟩
  · by_cases c2 : dn < dx
    · go_wp2_with fail
      try go_at_call 158
      first | refine (HUm.out ((w1.drewN a1).drewN a2) K0.out K1.out K2.out).mono ?_ | refine (HUm.out (w1.drewN (a1 + a2)) K0.out K1.out K2.out).mono ?_
      rintro e w2 ⟨rfl, a3, rfl⟩
      go_wp2_with fail
      try go_at_call 162
      refine (HR.out _).mono ?_
      rintro e w' ⟨rfl, rfl⟩
      go_wp2
      go_ret2
      exact ⟨by rw [HRd.out, HRp.out, if_neg c1, if_neg c1, if_pos c2]; rfl, HB1.out.trans ⟨rfl, rfl, rfl, Nat.le_refl _, fun _ _ => rfl⟩⟩
    · go_wp2
      go_ret2
      exact ⟨by rw [HRd.out, HRp.out, if_neg c1, if_neg c1, if_neg c2]; rfl, HB1.out.trans ⟨rfl, rfl, rfl, Nat.le_refl _, fun _ _ => rfl⟩⟩
theorem and_i64_nat (a b : Nat) (ha : a < 9223372036854775808) (hb : b < 9223372036854775808) : bits .and .i64 (a : Int) (b : Int) = ((a &&& b : Nat) : Int) := by
  have hx : a &&& b ≤ a := Nat.and_le_left
  have h1 : (BitVec.ofInt 64 (a : Int)).toNat = a := by rw [BitVec.ofInt_natCast, BitVec.toNat_ofNat]; exact Nat.mod_eq_of_lt (by omega)
  have h2 : (BitVec.ofInt 64 (b : Int)).toNat = b := by rw [BitVec.ofInt_natCast, BitVec.toNat_ofNat]; exact Nat.mod_eq_of_lt (by omega)
  show IntKind.i64.wrap ((BitVec.ofInt 64 (a : Int) &&& BitVec.ofInt 64 (b : Int)).toNat : Int) = _
  rw [BitVec.toNat_and, h1, h2, IntWalk.i64_in _ (by omega)]
theorem odd_fact (m k : Nat) (hm : m < 18446744073709551616) (hk : 11 ≤ k) : bits .and .i64 (wrap64 ((m : Int) / 2 ^ k)) 1 = ((m / 2 ^ k % 2 : Nat) : Int) := by
  have h1 : m / 2 ^ k ≤ m / 2048 := by
    have : (2048 : Nat) ≤ 2 ^ k := by have := Nat.pow_le_pow_right (show 0 < 2 by decide) hk; simpa using this
    exact Nat.div_le_div_left this (by decide)
  rw [show (m : Int) / 2 ^ k = ((m / 2 ^ k : Nat) : Int) from by push_cast; rfl]
  generalize m / 2 ^ k = q at *
  have hw : wrap64 (q : Int) = (q : Int) := by unfold wrap64; omega
  rw [hw]
  have e := and_i64_nat q 1 (by omega) (by omega)
  rw [Nat.and_one_is_mod] at e
  exact e
set_option maxRecDepth 100000 in
theorem short_any (B m : Nat) (e : Int) (w : World) (h : Good m e) (H : P10 B w) : Calls Tryz.prog 135 #[.int .u64 (m : Int), .int .i64 e] w (ShPost (shD m e) (shP m e) w) := by
  have S := scaled_of h
  obtain ⟨q1, q2, _, _⟩ := sP_bd h.r
  obtain ⟨s1, s2, s3⟩ := sS_bd h.r
  obtain ⟨i1, i2⟩ := sI_bd h.r
  have hz := sZ_bd h.r.e1
  have he1 := h.r.e1
  have he2 := h.r.e2
  have hlo := h.r.lo
  have hhi := h.r.hi
  have hmx := good_max h
  have hmn := (good_min h).2
  have HL := Lib.hid (l2t_any (sP m e) (by omega) (by omega))
  have hl2 : -2000 ≤ l2t (sP m e) ∧ l2t (sP m e) ≤ 2000 := by unfold l2t; omega
  have HP := Lib.hid (prescale_any B w.heap.size (sI m e) (sS m e) e (sP m e) (l2t (sP m e)) (w.alloc (.cells #[.int .u64 0, .int .u64 0, .int .i64 0] 220)) _ _ _ 220 (heap_alloc_new w _) H.2.2 (p10_below H ((Below.refl _ _).alloc H.2.2 _)) (by omega) (by omega) hl2 i2.symm s3.symm)
  by_cases hA : m = 9223372036854775808 ∧ -1085 < e
  · obtain ⟨hA1, hA2⟩ := hA
    have hp : sP m e = -skw (e + 11) := by unfold sP; rw [if_pos ⟨hA1, hA2⟩]
    have hsz : sZ e = 11 := by unfold sZ; rw [if_pos (by omega)]
    have HK := Lib.hid (show ∀ w, Calls Tryz.prog 155 #[.int .i64 (e + 11)] w (Ret (.int .i64 (-sP m e)) w) from fun w => by
      have := skew_any (e + 11) (by omega) (by omega) w
      rw [hp, Int.neg_neg]
      exact this)
    have e1 : (9223372036854775296 : Int) = (sMin m e : Int) := by unfold sMin; rw [if_pos ⟨hA1, hA2⟩]; omega
    have e2 : (9223372036854776832 : Int) = (sMax m e : Int) := by unfold sMax; rw [hsz]; omega
    have e3 : bits .and .i64 4503599627370496 1 = (sOdd m e : Int) := by
      have : sOdd m e = 0 := by unfold sOdd; rw [hsz, hA1]
      rw [this]
      decide
    have hm : (m : Int) = 9223372036854775808 := by omega
    have key := shA m _ _ _ _ _ _ _ _ _ e (sP m e) (l2t (sP m e)) w S hm hA2 he2 q1 q2 HK HL HP (shD m e) (shP m e) rfl rfl e1 e2 e3
    rw [← hm] at key
    exact key
  · by_cases hC : -1085 ≤ e
    · have hp : sP m e = -l10 (e + 11) := by unfold sP; rw [if_neg hA, if_pos hC]
      have hsz : sZ e = 11 := by unfold sZ; rw [if_pos hC]
      have HK := Lib.hid (show ∀ w, Calls Tryz.prog 121 #[.int .i64 (e + 11)] w (Ret (.int .i64 (-sP m e)) w) from fun w => by
        have := l10_any (e + 11) (by omega) (by omega) w
        rw [hp, Int.neg_neg]
        exact this)
      have e1 : (sMin m e : Int) = (m : Int) - 1024 := by unfold sMin; rw [if_neg hA, hsz]; omega
      have e2 : (sMax m e : Int) = (m : Int) + 1024 := by unfold sMax; rw [hsz]; omega
      have e3 : bits .and .i64 (wrap64 ((m : Int) / 2048)) 1 = (sOdd m e : Int) := by
        unfold sOdd
        rw [hsz]
        exact odd_fact m 11 hhi (by omega)
      by_cases h9 : m = 9223372036854775808
      · have he9 : e ≤ -1085 := by
          rcases Int.lt_or_le (-1085) e with h | h
          · exact absurd ⟨h9, h⟩ hA
          · exact h
        have hm : (m : Int) = 9223372036854775808 := by omega
        have e4 : bits .and .i64 4503599627370496 1 = (sOdd m e : Int) := by
          have : sOdd m e = 0 := by unfold sOdd; rw [hsz, h9]
          rw [this]
          decide
        have key := shB2 m _ _ _ _ _ _ _ _ _ e (sP m e) (l2t (sP m e)) w S hm hC he9 q1 q2 HK HL HP (shD m e) (shP m e) rfl rfl (by omega) (by omega) e4
        rw [← hm] at key
        exact key
      · exact shB m _ _ _ _ _ _ _ _ _ e (sP m e) (l2t (sP m e)) w S (by rw [beq_eq_false_iff_ne]; omega) hC he2 q1 q2 HK HL HP (shD m e) (shP m e) rfl rfl (by rw [u64_wrap _ (by omega)]; omega) (by rw [u64_wrap _ (by omega)]; omega) e3
    · have hp : sP m e = -l10 (-1074) := by unfold sP; rw [if_neg hA, if_neg hC]
      obtain ⟨y, hy⟩ : ∃ y, sZ e = y + 1 := ⟨sZ e - 1, by omega⟩
      have hsz : ((sZ e : Nat) : Int) = -1074 - e := by unfold sZ; rw [if_neg hC]; omega
      have HK := Lib.hid (show ∀ w, Calls Tryz.prog 121 #[.int .i64 (-1074)] w (Ret (.int .i64 (-sP m e)) w) from fun w => by
        have := l10_any (-1074) (by omega) (by omega) w
        rw [hp, Int.neg_neg]
        exact this)
      have hyp : 2 ^ y ≤ 2 ^ 62 := Nat.pow_le_pow_right (by decide) (by omega)
      have h62 : (2 : Nat) ^ 62 = 4611686018427387904 := by decide
      rw [h62] at hyp
      obtain ⟨g, hg⟩ : ∃ g, 2 ^ y = g := ⟨_, rfl⟩
      rw [hg] at hyp
      have ew : IntKind.u64.wrap (2 ^ y) = (g : Int) := by
        rw [show (2 : Int) ^ y = ((2 ^ y : Nat) : Int) from by push_cast; rfl, hg, u64_wrap _ (by omega)]
      have e1 : (sMin m e : Int) = (m : Int) - (g : Int) := by
        unfold sMin
        rw [if_neg hA, hy, Nat.add_sub_cancel, hg]
        omega
      have e2 : (sMax m e : Int) = (m : Int) + (g : Int) := by
        unfold sMax
        rw [hy, Nat.add_sub_cancel, hg]
        omega
      have e3 : bits .and .i64 (wrap64 ((m : Int) / 2 ^ (y + 1))) 1 = (sOdd m e : Int) := by
        unfold sOdd
        rw [hy]
        exact odd_fact m (y + 1) hhi (by omega)
      by_cases h9 : m = 9223372036854775808
      · have hm : (m : Int) = 9223372036854775808 := by omega
        have key := shC2 m _ _ _ _ _ _ _ _ _ e (sP m e) (l2t (sP m e)) w S y hm (by omega) he1 (by omega) (by omega) q1 q2 HK HL HP (shD m e) (shP m e) rfl rfl (by rw [ew, ← hm, u64_wrap _ (by omega)]; omega) (by rw [ew, ← hm, u64_wrap _ (by omega)]; omega) (by rw [← hm]; exact e3)
        rw [← hm] at key
        exact key
      · exact shC m _ _ _ _ _ _ _ _ _ e (sP m e) (l2t (sP m e)) w S y (by rw [beq_eq_false_iff_ne]; omega) (by omega) he1 (by omega) (by omega) q1 q2 HK HL HP (shD m e) (shP m e) rfl rfl (by rw [ew, u64_wrap _ (by omega)]; omega) (by rw [ew, u64_wrap _ (by omega)]; omega) e3
end Go.Proofs.YtdkccihoecpcaaaGreatFmt
