/- A float's text with a point, appended to the encoder's buffer: walked. Conditions: there is room. -/
import Derived.Test.YtdkccihoecpcaaaGreatFmtFmF
namespace Go.Proofs.YtdkccihoecpcaaaGreatFmt
open Go.RowKit Go
set_option maxRecDepth 100000 in
set_option maxHeartbeats 3200000 in
theorem fmC_false (eb bb nd z q n0 : Nat) (dp : Int) (cur : Array Value) (l D : List UInt8) (w : World) (hd : Dst eb cur l w) (hD : Digs32 bb D w) (hne : bb ≠ eb) (hz : dp = -(z : Int)) (h1 : 0 < nd) (hq : q = nd + z) (hnd : nd ≤ 20) (hn : D.length = nd) (hn0 : n0 = l.length) (hlim : l.length + nd + z + 4 ≤ 64) :
    Calls Tryz.prog 128 #[.slice (some ⟨eb, 1, none⟩) n0 64, .bool false, .slice (some ⟨bb, 0, none⟩) 32 32, .int .i64 dp, .int .i64 (nd : Int), .int .i64 (q : Int), .int .u8 102, .bool true] w (FmtPost eb cur (l ++ fmF false D dp) w) := by
  have i1 : ¬ ((0 : Int) < dp) := by omega
  have iq : (0 : Int) < (q : Int) := by omega
  have hmx : max (0 : Int) (-dp) = (z : Int) := by omega
  have hmq : min (q : Int) (z : Int) = (z : Int) := by omega
  have hoff : dp + (z : Int) = 0 := by omega
  have hdn : (q : Int) - (z : Int) = (nd : Int) := by omega
  have hmn : max (0 : Int) (nd : Int) = (nd : Int) := by omega
  have HDg := Lib.hid hD
  have HNd := Lib.hid hn
  have HNe := Lib.hid hne
  obtain ⟨Zs, hZs⟩ : ∃ Zs, Zs = List.replicate z (48 : UInt8) := ⟨_, rfl⟩
  have HF := Lib.hid (show fmF false D dp = sgn false ++ (48 :: 46 :: (Zs ++ D)) from by
    unfold fmF
    rw [if_neg i1, if_pos (by omega)]
    have e1 : dp.toNat = 0 := by omega
    have e2 : (-dp).toNat = z := by omega
    rw [e1, e2, hZs]
    simp)
  have HZs := Lib.hid hZs
  have HTz := Lib.hid (show Zs.length = z from by rw [hZs]; exact List.length_replicate)
  have HLim := Lib.hid (show l.length + nd + Zs.length + 4 ≤ 64 from by rw [HTz.out]; omega)
  clear hZs
  have HO := Lib.hid (show Dst eb cur l w ∧ Touch [eb] w w from ⟨hd, Touch.refl _ _⟩)
  have HN0 := Lib.hid hn0
  have hz20 : z ≤ 60 := by omega
  have hn20 : nd ≤ 20 := hnd
  have hq20 : q ≤ 80 := by omega
  have hdp2 : decide ((0 : Int) < dp) = false := decide_eq_false i1
  have hq1 : decide (0 < q) = true := decide_eq_true (by omega)
  have hq2 : decide ((0 : Int) < (q : Int)) = true := decide_eq_true iq
  clear hd hD hn hne hn0 hlim hnd
  have HZ := Lib.hid hz
  have HQ := Lib.hid hq
  clear hz hq
  go_enter Tryz.func128, Tryz.ntmps128
  go_wp2_with (at_builtin; refine app_new rfl _ _ rfl eb _ _ _ cur _ _ (l) [48] _ rfl ?cb1 rfl rfl ?cn1 rfl ?cd1 ?cr1 ?_)
  case cb1 => first | rfl | simp
  case cn1 => exact HN0.out
  case cd1 => exact HO.out.1
  case cr1 => have := HLim.out; (try simp at this ⊢) <;> omega
  intro w1 hd1 ht1
  have HO1 := Lib.hid (show Dst eb cur (l ++ [48]) w1 ∧ Touch [eb] w w1 from ⟨by first | exact hd1 | simpa using hd1, HO.out.2.trans ht1⟩)
  clear hd1 ht1
  have HNa := Lib.hid (show n0 + 1 = ((l) ++ [48]).length from by rw [List.length_append, ← HN0.out]; rfl)
  go_wp2_with (at_builtin; refine app_new rfl _ _ rfl eb _ _ _ cur _ _ ((l) ++ [48]) [46] _ rfl ?cb2 rfl rfl ?cn2 rfl ?cd2 ?cr2 ?_)
  case cb2 => first | rfl | simp
  case cn2 => exact HNa.out
  case cd2 => exact HO1.out.1
  case cr2 => have := HLim.out; (try simp at this ⊢) <;> omega
  intro w2 hd2 ht2
  have HO2 := Lib.hid (show Dst eb cur ((l) ++ [48] ++ [46]) w2 ∧ Touch [eb] w w2 from ⟨by first | exact hd2 | simpa using hd2, HO1.out.2.trans ht2⟩)
  clear hd2 ht2
  have HNb := Lib.hid (show n0 + 1 + 1 = (((l) ++ [48]) ++ [46]).length from by rw [List.length_append, ← HNa.out]; rfl)
  go_wp2
  go_loopw [0, 240] (fun ds ix wr => ∃ (k n : Nat), k ≤ z ∧ ix = .int .i64 (k : Int) ∧ ds = .slice (some ⟨eb, 1, none⟩) n 64 ∧ Hid (n = (((l) ++ [48]) ++ [46] ++ Zs.take k).length) ∧ Hid (Dst eb cur (((l) ++ [48]) ++ [46] ++ Zs.take k) wr ∧ Touch [eb] w wr)) (fun _ ix _ => z - (intOf ix).toNat)
  case atStart => exact ⟨0, _, Nat.zero_le _, rfl, rfl, Lib.hid (by rw [List.take_zero, List.append_nil]; exact HNb.out), Lib.hid (by rw [List.take_zero, List.append_nil]; exact HO2.out)⟩
  case round =>
    obtain ⟨k, n, hk, rfl, rfl, HN, HO⟩ := hrel
    by_cases hlt : k < z
    · have hkS : k < Zs.length := by rw [HTz.out]; exact hlt
      have HS := Lib.hid (List.take_succ_eq_append_getElem hkS)
      have e1 : Zs[k]'hkS = 48 := by simp only [HZs.out]; exact List.getElem_replicate _
      rw [e1] at HS
      clear e1 hkS
      go_wp2_with (at_builtin; refine app_new rfl _ _ rfl eb _ _ _ cur _ _ (((l) ++ [48]) ++ [46] ++ Zs.take k) [48] _ rfl ?cb4 rfl rfl ?cn4 rfl ?cd4 ?cr4 ?_)
      case cb4 => first | rfl | simp
      case cn4 => exact HN.out
      case cd4 => exact HO.out.1
      case cr4 => have := HLim.out; (try simp at this ⊢) <;> omega
      intro w4 hd4 ht4
      have HO4 := Lib.hid (show Dst eb cur (((l) ++ [48]) ++ [46] ++ Zs.take k ++ [48]) w4 ∧ Touch [eb] w w4 from ⟨by first | exact hd4 | simpa using hd4, HO.out.2.trans ht4⟩)
      clear hd4 ht4
      go_wp2
      go_roundw
      case rel => exact ⟨k + 1, _, by omega, by go_num, rfl, Lib.hid (by rw [HS.out, ← List.append_assoc, List.length_append, ← HN.out]; rfl), Lib.hid (by rw [HS.out, ← List.append_assoc]; exact HO4.out)⟩
      case measure => simp [intOf]; omega
    · obtain rfl : z = k := by omega
      have HNc := Lib.hid (show n = ((((l) ++ [48]) ++ [46]) ++ Zs).length from by have h := HN.out; rw [take_all Zs _ (by rw [HTz.out]; exact Nat.le_refl _)] at h; exact h)
      have HOc := Lib.hid (show Dst eb cur ((((l) ++ [48]) ++ [46]) ++ Zs) _ ∧ Touch [eb] w _ from by have h := HO.out; rw [take_all Zs _ (by rw [HTz.out]; exact Nat.le_refl _)] at h; exact h)
      clear HO HN
      go_wp2
      go_loopw [0, 247] (fun ds ix wr => ∃ (k n : Nat), k ≤ nd ∧ ix = .int .i64 (k : Int) ∧ ds = .slice (some ⟨eb, 1, none⟩) n 64 ∧ Hid (n = ((((l) ++ [48]) ++ [46]) ++ Zs ++ D.take k).length) ∧ Hid (Dst eb cur ((((l) ++ [48]) ++ [46]) ++ Zs ++ D.take k) wr ∧ Touch [eb] w wr)) (fun _ ix _ => nd - (intOf ix).toNat)
      case atStart => exact ⟨0, _, Nat.zero_le _, rfl, rfl, Lib.hid (by rw [List.take_zero, List.append_nil]; exact HNc.out), Lib.hid (by rw [List.take_zero, List.append_nil]; exact HOc.out)⟩
      case round =>
        obtain ⟨k, n, hk, rfl, rfl, HN, HO⟩ := hrel
        by_cases hlt : k < nd
        · have hkS : k < D.length := by rw [HNd.out]; exact hlt
          have HS := Lib.hid (List.take_succ_eq_append_getElem hkS)
          have hc := digs_at HDg.out HO.out.2 HNe.out k (by have := HNd.out; omega)
          generalize D[k]'hkS = x at hc HS
          clear hkS
          go_wp2_with (at_builtin; refine app_new rfl _ _ rfl eb _ _ _ cur _ _ ((((l) ++ [48]) ++ [46]) ++ Zs ++ D.take k) [x] _ rfl ?cb6 rfl rfl ?cn6 rfl ?cd6 ?cr6 ?_)
          case cb6 => first | rfl | simp
          case cn6 => exact HN.out
          case cd6 => exact HO.out.1
          case cr6 => have := HLim.out; (try simp at this ⊢) <;> omega
          intro w6 hd6 ht6
          have HO6 := Lib.hid (show Dst eb cur ((((l) ++ [48]) ++ [46]) ++ Zs ++ D.take k ++ [x]) w6 ∧ Touch [eb] w w6 from ⟨by first | exact hd6 | simpa using hd6, HO.out.2.trans ht6⟩)
          clear hd6 ht6
          go_wp2
          go_roundw
          case rel => exact ⟨k + 1, _, by omega, by go_num, rfl, Lib.hid (by rw [HS.out, ← List.append_assoc, List.length_append, ← HN.out]; rfl), Lib.hid (by rw [HS.out, ← List.append_assoc]; exact HO6.out)⟩
          case measure => simp [intOf]; omega
        · obtain rfl : nd = k := by omega
          have HO5 := Lib.hid (show Dst eb cur (l ++ fmF false D dp) _ ∧ Touch [eb] w _ from by
            have h := HO.out
            rw [take_all D _ (by rw [HNd.out]; exact Nat.le_refl _)] at h
            rw [HF.out]
            first | exact h | simpa [sgn] using h)
          have HN5 := Lib.hid (show n = (l ++ fmF false D dp).length from by
            have h := HN.out
            rw [take_all D _ (by rw [HNd.out]; exact Nat.le_refl _)] at h
            rw [HF.out]
            first | exact h | simpa [sgn] using h)
          clear HO HN HOc
          go_wp2
          go_loopw [0, 261] (fun ds ix wr => ∃ (n : Nat), ix = .int .i64 0 ∧ ds = .slice (some ⟨eb, 1, none⟩) n 64 ∧ Hid (n = (l ++ fmF false D dp).length) ∧ Hid (Dst eb cur (l ++ fmF false D dp) wr ∧ Touch [eb] w wr)) (fun _ _ _ => 0)
          case atStart => exact ⟨_, rfl, rfl, HN5, HO5⟩
          case round =>
            obtain ⟨n, rfl, rfl, HN60, HO61⟩ := hrel
            clear HO5 HN5
            go_wp2
            go_ret
            exact ⟨by rw [HN60.out]; rfl, HO61.out⟩
set_option maxRecDepth 100000 in
set_option maxHeartbeats 3200000 in
theorem fmC_true (eb bb nd z q n0 : Nat) (dp : Int) (cur : Array Value) (l D : List UInt8) (w : World) (hd : Dst eb cur l w) (hD : Digs32 bb D w) (hne : bb ≠ eb) (hz : dp = -(z : Int)) (h1 : 0 < nd) (hq : q = nd + z) (hnd : nd ≤ 20) (hn : D.length = nd) (hn0 : n0 = l.length) (hlim : l.length + nd + z + 4 ≤ 64) :
    Calls Tryz.prog 128 #[.slice (some ⟨eb, 1, none⟩) n0 64, .bool true, .slice (some ⟨bb, 0, none⟩) 32 32, .int .i64 dp, .int .i64 (nd : Int), .int .i64 (q : Int), .int .u8 102, .bool true] w (FmtPost eb cur (l ++ fmF true D dp) w) := by
  have i1 : ¬ ((0 : Int) < dp) := by omega
  have iq : (0 : Int) < (q : Int) := by omega
  have hmx : max (0 : Int) (-dp) = (z : Int) := by omega
  have hmq : min (q : Int) (z : Int) = (z : Int) := by omega
  have hoff : dp + (z : Int) = 0 := by omega
  have hdn : (q : Int) - (z : Int) = (nd : Int) := by omega
  have hmn : max (0 : Int) (nd : Int) = (nd : Int) := by omega
  have HDg := Lib.hid hD
  have HNd := Lib.hid hn
  have HNe := Lib.hid hne
  obtain ⟨Zs, hZs⟩ : ∃ Zs, Zs = List.replicate z (48 : UInt8) := ⟨_, rfl⟩
  have HF := Lib.hid (show fmF true D dp = sgn true ++ (48 :: 46 :: (Zs ++ D)) from by
    unfold fmF
    rw [if_neg i1, if_pos (by omega)]
    have e1 : dp.toNat = 0 := by omega
    have e2 : (-dp).toNat = z := by omega
    rw [e1, e2, hZs]
    simp)
  have HZs := Lib.hid hZs
  have HTz := Lib.hid (show Zs.length = z from by rw [hZs]; exact List.length_replicate)
  have HLim := Lib.hid (show l.length + nd + Zs.length + 4 ≤ 64 from by rw [HTz.out]; omega)
  clear hZs
  have HO := Lib.hid (show Dst eb cur l w ∧ Touch [eb] w w from ⟨hd, Touch.refl _ _⟩)
  have HN0 := Lib.hid hn0
  have hz20 : z ≤ 60 := by omega
  have hn20 : nd ≤ 20 := hnd
  have hq20 : q ≤ 80 := by omega
  have hdp2 : decide ((0 : Int) < dp) = false := decide_eq_false i1
  have hq1 : decide (0 < q) = true := decide_eq_true (by omega)
  have hq2 : decide ((0 : Int) < (q : Int)) = true := decide_eq_true iq
  clear hd hD hn hne hn0 hlim hnd
  have HZ := Lib.hid hz
  have HQ := Lib.hid hq
  clear hz hq
  go_enter Tryz.func128, Tryz.ntmps128
  go_wp2_with (at_builtin; refine app_new rfl _ _ rfl eb _ _ _ cur _ _ (l) [45] _ rfl ?cb7 rfl rfl ?cn7 rfl ?cd7 ?cr7 ?_)
  case cb7 => first | rfl | simp
  case cn7 => exact HN0.out
  case cd7 => exact HO.out.1
  case cr7 => have := HLim.out; (try simp at this ⊢) <;> omega
  intro w7 hd7 ht7
  have HO7 := Lib.hid (show Dst eb cur (l ++ [45]) w7 ∧ Touch [eb] w w7 from ⟨by first | exact hd7 | simpa using hd7, HO.out.2.trans ht7⟩)
  clear hd7 ht7
  have HNs := Lib.hid (show n0 + 1 = (l ++ [45]).length from by rw [HN0.out]; simp)
  go_wp2_with (at_builtin; refine app_new rfl _ _ rfl eb _ _ _ cur _ _ (l ++ [45]) [48] _ rfl ?cb8 rfl rfl ?cn8 rfl ?cd8 ?cr8 ?_)
  case cb8 => first | rfl | simp
  case cn8 => exact HNs.out
  case cd8 => exact HO7.out.1
  case cr8 => have := HLim.out; (try simp at this ⊢) <;> omega
  intro w8 hd8 ht8
  have HO8 := Lib.hid (show Dst eb cur (l ++ [45] ++ [48]) w8 ∧ Touch [eb] w w8 from ⟨by first | exact hd8 | simpa using hd8, HO7.out.2.trans ht8⟩)
  clear hd8 ht8
  have HNa := Lib.hid (show n0 + 1 + 1 = ((l ++ [45]) ++ [48]).length from by rw [List.length_append, ← HNs.out]; rfl)
  go_wp2_with (at_builtin; refine app_new rfl _ _ rfl eb _ _ _ cur _ _ ((l ++ [45]) ++ [48]) [46] _ rfl ?cb9 rfl rfl ?cn9 rfl ?cd9 ?cr9 ?_)
  case cb9 => first | rfl | simp
  case cn9 => exact HNa.out
  case cd9 => exact HO8.out.1
  case cr9 => have := HLim.out; (try simp at this ⊢) <;> omega
  intro w9 hd9 ht9
  have HO9 := Lib.hid (show Dst eb cur ((l ++ [45]) ++ [48] ++ [46]) w9 ∧ Touch [eb] w w9 from ⟨by first | exact hd9 | simpa using hd9, HO8.out.2.trans ht9⟩)
  clear hd9 ht9
  have HNb := Lib.hid (show n0 + 1 + 1 + 1 = (((l ++ [45]) ++ [48]) ++ [46]).length from by rw [List.length_append, ← HNa.out]; rfl)
  go_wp2
  go_loopw [0, 240] (fun ds ix wr => ∃ (k n : Nat), k ≤ z ∧ ix = .int .i64 (k : Int) ∧ ds = .slice (some ⟨eb, 1, none⟩) n 64 ∧ Hid (n = (((l ++ [45]) ++ [48]) ++ [46] ++ Zs.take k).length) ∧ Hid (Dst eb cur (((l ++ [45]) ++ [48]) ++ [46] ++ Zs.take k) wr ∧ Touch [eb] w wr)) (fun _ ix _ => z - (intOf ix).toNat)
  case atStart => exact ⟨0, _, Nat.zero_le _, rfl, rfl, Lib.hid (by rw [List.take_zero, List.append_nil]; exact HNb.out), Lib.hid (by rw [List.take_zero, List.append_nil]; exact HO9.out)⟩
  case round =>
    obtain ⟨k, n, hk, rfl, rfl, HN, HO⟩ := hrel
    by_cases hlt : k < z
    · have hkS : k < Zs.length := by rw [HTz.out]; exact hlt
      have HS := Lib.hid (List.take_succ_eq_append_getElem hkS)
      have e1 : Zs[k]'hkS = 48 := by simp only [HZs.out]; exact List.getElem_replicate _
      rw [e1] at HS
      clear e1 hkS
      go_wp2_with (at_builtin; refine app_new rfl _ _ rfl eb _ _ _ cur _ _ (((l ++ [45]) ++ [48]) ++ [46] ++ Zs.take k) [48] _ rfl ?cb11 rfl rfl ?cn11 rfl ?cd11 ?cr11 ?_)
      case cb11 => first | rfl | simp
      case cn11 => exact HN.out
      case cd11 => exact HO.out.1
      case cr11 => have := HLim.out; (try simp at this ⊢) <;> omega
      intro w11 hd11 ht11
      have HO11 := Lib.hid (show Dst eb cur (((l ++ [45]) ++ [48]) ++ [46] ++ Zs.take k ++ [48]) w11 ∧ Touch [eb] w w11 from ⟨by first | exact hd11 | simpa using hd11, HO.out.2.trans ht11⟩)
      clear hd11 ht11
      go_wp2
      go_roundw
      case rel => exact ⟨k + 1, _, by omega, by go_num, rfl, Lib.hid (by rw [HS.out, ← List.append_assoc, List.length_append, ← HN.out]; rfl), Lib.hid (by rw [HS.out, ← List.append_assoc]; exact HO11.out)⟩
      case measure => simp [intOf]; omega
    · obtain rfl : z = k := by omega
      have HNc := Lib.hid (show n = ((((l ++ [45]) ++ [48]) ++ [46]) ++ Zs).length from by have h := HN.out; rw [take_all Zs _ (by rw [HTz.out]; exact Nat.le_refl _)] at h; exact h)
      have HOc := Lib.hid (show Dst eb cur ((((l ++ [45]) ++ [48]) ++ [46]) ++ Zs) _ ∧ Touch [eb] w _ from by have h := HO.out; rw [take_all Zs _ (by rw [HTz.out]; exact Nat.le_refl _)] at h; exact h)
      clear HO HN
      go_wp2
      go_loopw [0, 247] (fun ds ix wr => ∃ (k n : Nat), k ≤ nd ∧ ix = .int .i64 (k : Int) ∧ ds = .slice (some ⟨eb, 1, none⟩) n 64 ∧ Hid (n = ((((l ++ [45]) ++ [48]) ++ [46]) ++ Zs ++ D.take k).length) ∧ Hid (Dst eb cur ((((l ++ [45]) ++ [48]) ++ [46]) ++ Zs ++ D.take k) wr ∧ Touch [eb] w wr)) (fun _ ix _ => nd - (intOf ix).toNat)
      case atStart => exact ⟨0, _, Nat.zero_le _, rfl, rfl, Lib.hid (by rw [List.take_zero, List.append_nil]; exact HNc.out), Lib.hid (by rw [List.take_zero, List.append_nil]; exact HOc.out)⟩
      case round =>
        obtain ⟨k, n, hk, rfl, rfl, HN, HO⟩ := hrel
        by_cases hlt : k < nd
        · have hkS : k < D.length := by rw [HNd.out]; exact hlt
          have HS := Lib.hid (List.take_succ_eq_append_getElem hkS)
          have hc := digs_at HDg.out HO.out.2 HNe.out k (by have := HNd.out; omega)
          generalize D[k]'hkS = x at hc HS
          clear hkS
          go_wp2_with (at_builtin; refine app_new rfl _ _ rfl eb _ _ _ cur _ _ ((((l ++ [45]) ++ [48]) ++ [46]) ++ Zs ++ D.take k) [x] _ rfl ?cb13 rfl rfl ?cn13 rfl ?cd13 ?cr13 ?_)
          case cb13 => first | rfl | simp
          case cn13 => exact HN.out
          case cd13 => exact HO.out.1
          case cr13 => have := HLim.out; (try simp at this ⊢) <;> omega
          intro w13 hd13 ht13
          have HO13 := Lib.hid (show Dst eb cur ((((l ++ [45]) ++ [48]) ++ [46]) ++ Zs ++ D.take k ++ [x]) w13 ∧ Touch [eb] w w13 from ⟨by first | exact hd13 | simpa using hd13, HO.out.2.trans ht13⟩)
          clear hd13 ht13
          go_wp2
          go_roundw
          case rel => exact ⟨k + 1, _, by omega, by go_num, rfl, Lib.hid (by rw [HS.out, ← List.append_assoc, List.length_append, ← HN.out]; rfl), Lib.hid (by rw [HS.out, ← List.append_assoc]; exact HO13.out)⟩
          case measure => simp [intOf]; omega
        · obtain rfl : nd = k := by omega
          have HO5 := Lib.hid (show Dst eb cur (l ++ fmF true D dp) _ ∧ Touch [eb] w _ from by
            have h := HO.out
            rw [take_all D _ (by rw [HNd.out]; exact Nat.le_refl _)] at h
            rw [HF.out]
            first | exact h | simpa [sgn] using h)
          have HN5 := Lib.hid (show n = (l ++ fmF true D dp).length from by
            have h := HN.out
            rw [take_all D _ (by rw [HNd.out]; exact Nat.le_refl _)] at h
            rw [HF.out]
            first | exact h | simpa [sgn] using h)
          clear HO HN HOc
          go_wp2
          go_loopw [0, 261] (fun ds ix wr => ∃ (n : Nat), ix = .int .i64 0 ∧ ds = .slice (some ⟨eb, 1, none⟩) n 64 ∧ Hid (n = (l ++ fmF true D dp).length) ∧ Hid (Dst eb cur (l ++ fmF true D dp) wr ∧ Touch [eb] w wr)) (fun _ _ _ => 0)
          case atStart => exact ⟨_, rfl, rfl, HN5, HO5⟩
          case round =>
            obtain ⟨n, rfl, rfl, HN60, HO61⟩ := hrel
            clear HO5 HN5
            go_wp2
            go_ret
            exact ⟨by rw [HN60.out]; rfl, HO61.out⟩
end Go.Proofs.YtdkccihoecpcaaaGreatFmt
