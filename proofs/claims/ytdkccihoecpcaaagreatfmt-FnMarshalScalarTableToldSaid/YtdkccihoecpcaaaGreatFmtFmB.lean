/- A float's text with a point, appended to the encoder's buffer: walked. Conditions: there is room. -/
import Derived.Test.YtdkccihoecpcaaaGreatFmtFmF
namespace Go.Proofs.YtdkccihoecpcaaaGreatFmt
open Go.RowKit Go
set_option maxRecDepth 100000 in
set_option maxHeartbeats 3200000 in
theorem fmB_false (eb bb nd dp q n0 : Nat) (cur : Array Value) (l D : List UInt8) (w : World) (hd : Dst eb cur l w) (hD : Digs32 bb D w) (hne : bb ≠ eb) (h1 : 0 < dp) (hq : 0 < q) (hz : nd = dp + q) (hnd : nd ≤ 20) (hn : D.length = nd) (hn0 : n0 = l.length) (hlim : l.length + nd + 3 ≤ 64) :
    Calls Tryz.prog 128 #[.slice (some ⟨eb, 1, none⟩) n0 64, .bool false, .slice (some ⟨bb, 0, none⟩) 32 32, .int .i64 (dp : Int), .int .i64 (nd : Int), .int .i64 (q : Int), .int .u8 102, .bool true] w (FmtPost eb cur (l ++ fmF false D (dp : Int)) w) := by
  have hsl := run_slice32 bb dp (by omega)
  have i1 : (0 : Int) < (dp : Int) := by omega
  have iq : (0 : Int) < (q : Int) := by omega
  have hmin : min (nd : Int) (dp : Int) = (dp : Int) := by omega
  have hmx : max (0 : Int) (-(dp : Int)) = 0 := by omega
  have hmq : min (q : Int) 0 = 0 := by omega
  have hdn : (nd : Int) - (dp : Int) = (q : Int) := by omega
  have hmq2 : max (0 : Int) (q : Int) = (q : Int) := by omega
  have HLim := Lib.hid (show l.length + dp + q + 3 ≤ 64 from by omega)
  have HDg := Lib.hid hD
  have HNd := Lib.hid (show D.length = dp + q from by omega)
  have HNe := Lib.hid hne
  have HF := Lib.hid (show fmF false D (dp : Int) = sgn false ++ (D.take dp ++ 46 :: D.drop dp) from by
    unfold fmF
    rw [if_pos i1, if_pos (by omega)]
    have e1 : (dp : Int).toNat = dp := by omega
    have e2 : (-(dp : Int)).toNat = 0 := by omega
    rw [e1, e2, show dp - D.length = 0 from by omega]
    simp)
  have HO := Lib.hid (show Dst eb cur l w ∧ Touch [eb] w w from ⟨hd, Touch.refl _ _⟩)
  have HN0 := Lib.hid hn0
  have hz2 : nd ≤ 20 := hnd
  have hdp20 : dp ≤ 20 := by omega
  have hq20 : q ≤ 20 := by omega
  have HZ := Lib.hid hz
  have hdp1 : decide (0 < dp) = true := decide_eq_true h1
  have hdp2 : decide ((0 : Int) < (dp : Int)) = true := decide_eq_true i1
  have hq1 : decide (0 < q) = true := decide_eq_true hq
  have hq2 : decide ((0 : Int) < (q : Int)) = true := decide_eq_true iq
  clear hd hD hn hne hn0 hlim hz hnd
  go_enter Tryz.func128, Tryz.ntmps128
  go_wp2
  have HTl := Lib.hid (show (D.take dp).length = dp from by rw [List.length_take, HNd.out]; omega)
  go_loopw [0, 191] (fun ds ix wr => ∃ (k n : Nat), k ≤ dp ∧ ix = .int .i64 (k : Int) ∧ ds = .slice (some ⟨eb, 1, none⟩) n 64 ∧ Hid (n = (l ++ (D.take dp).take k).length) ∧ Hid (Dst eb cur (l ++ (D.take dp).take k) wr ∧ Touch [eb] w wr)) (fun _ ix _ => dp - (intOf ix).toNat)
  case atStart => exact ⟨0, _, Nat.zero_le _, rfl, rfl, Lib.hid (by rw [List.take_zero, List.append_nil]; exact HN0.out), Lib.hid (by rw [List.take_zero, List.append_nil]; exact HO.out)⟩
  case round =>
    obtain ⟨k, n, hk, rfl, rfl, HN, HO⟩ := hrel
    by_cases hlt : k < dp
    · have hkS : k < (D.take dp).length := by rw [HTl.out]; exact hlt
      have HS := Lib.hid (List.take_succ_eq_append_getElem hkS)
      have hc := digs_at HDg.out HO.out.2 HNe.out k (by have := HNd.out; omega)
      have e1 : (D.take dp)[k]'hkS = D[k]'(by have := HNd.out; omega) := List.getElem_take
      rw [e1] at HS
      generalize D[k]'(by have := HNd.out; omega) = x at hc HS
      clear e1 hkS
      go_wp2_with (at_builtin; refine app_new rfl _ _ rfl eb _ _ _ cur _ _ (l ++ (D.take dp).take k) [x] _ rfl ?cb2 rfl rfl ?cn2 rfl ?cd2 ?cr2 ?_)
      case cb2 => first | rfl | simp
      case cn2 => exact HN.out
      case cd2 => exact HO.out.1
      case cr2 => have := HLim.out; (try simp at this ⊢) <;> omega
      intro w2 hd2 ht2
      have HO2 := Lib.hid (show Dst eb cur (l ++ (D.take dp).take k ++ [x]) w2 ∧ Touch [eb] w w2 from ⟨by first | exact hd2 | simpa using hd2, HO.out.2.trans ht2⟩)
      clear hd2 ht2
      go_wp2
      go_roundw
      case rel => exact ⟨k + 1, _, by omega, by go_num, rfl, Lib.hid (by rw [HS.out, ← List.append_assoc, List.length_append, ← HN.out]; rfl), Lib.hid (by rw [HS.out, ← List.append_assoc]; exact HO2.out)⟩
      case measure => simp [intOf]; omega
    · obtain rfl : dp = k := by omega
      have HN1 := Lib.hid (show n = (l ++ (D.take dp)).length from by have h := HN.out; rw [List.take_take, Nat.min_self] at h; exact h)
      have HO2 := Lib.hid (show Dst eb cur (l ++ (D.take dp)) _ ∧ Touch [eb] w _ from by have h := HO.out; rw [List.take_take, Nat.min_self] at h; exact h)
      clear HO HN
      go_wp2
      go_loopw [0, 203] (fun ds ix wr => ∃ (n : Nat), ix = .int .i64 0 ∧ ds = .slice (some ⟨eb, 1, none⟩) n 64 ∧ Hid (n = (l ++ (D.take dp)).length) ∧ Hid (Dst eb cur (l ++ (D.take dp)) wr ∧ Touch [eb] w wr)) (fun _ _ _ => 0)
      case atStart => exact ⟨_, rfl, rfl, HN1, HO2⟩
      case round =>
        obtain ⟨n, rfl, rfl, HN20, HO21⟩ := hrel
        clear HO2 HN1
        go_wp2_with (at_builtin; refine app_new rfl _ _ rfl eb _ _ _ cur _ _ (l ++ (D.take dp)) [46] _ rfl ?cb3 rfl rfl ?cn3 rfl ?cd3 ?cr3 ?_)
        case cb3 => first | rfl | simp
        case cn3 => exact HN20.out
        case cd3 => exact HO21.out.1
        case cr3 => have := HLim.out; (try simp at this ⊢) <;> omega
        intro w3 hd3 ht3
        have HO3 := Lib.hid (show Dst eb cur (l ++ (D.take dp) ++ [46]) w3 ∧ Touch [eb] w w3 from ⟨by first | exact hd3 | simpa using hd3, HO21.out.2.trans ht3⟩)
        clear hd3 ht3
        go_wp2
        have HN30 := Lib.hid (show n + 1 = (l ++ (D.take dp) ++ [46]).length from by rw [List.length_append, ← HN20.out]; rfl)
        go_loopw [0, 240] (fun ds ix wr => ∃ (n : Nat), ix = .int .i64 0 ∧ ds = .slice (some ⟨eb, 1, none⟩) n 64 ∧ Hid (n = (l ++ (D.take dp) ++ [46]).length) ∧ Hid (Dst eb cur (l ++ (D.take dp) ++ [46]) wr ∧ Touch [eb] w wr)) (fun _ _ _ => 0)
        case atStart => exact ⟨_, rfl, rfl, HN30, HO3⟩
        case round =>
          obtain ⟨n, rfl, rfl, HN40, HO41⟩ := hrel
          clear HO3 HN30
          go_wp2
          have HTd := Lib.hid (show (D.drop dp).length = q from by rw [List.length_drop, HNd.out]; omega)
          go_loopw [0, 247] (fun ds ix wr => ∃ (k n : Nat), k ≤ q ∧ ix = .int .i64 (k : Int) ∧ ds = .slice (some ⟨eb, 1, none⟩) n 64 ∧ Hid (n = (l ++ (D.take dp) ++ [46] ++ (D.drop dp).take k).length) ∧ Hid (Dst eb cur (l ++ (D.take dp) ++ [46] ++ (D.drop dp).take k) wr ∧ Touch [eb] w wr)) (fun _ ix _ => q - (intOf ix).toNat)
          case atStart => exact ⟨0, _, Nat.zero_le _, rfl, rfl, Lib.hid (by rw [List.take_zero, List.append_nil]; exact HN40.out), Lib.hid (by rw [List.take_zero, List.append_nil]; exact HO41.out)⟩
          case round =>
            obtain ⟨k, n, hk, rfl, rfl, HN, HO⟩ := hrel
            by_cases hlt : k < q
            · have hkS : k < (D.drop dp).length := by rw [HTd.out]; exact hlt
              have HS := Lib.hid (List.take_succ_eq_append_getElem hkS)
              have hc := digs_at HDg.out HO.out.2 HNe.out (dp + k) (by have := HNd.out; omega)
              have e1 : (D.drop dp)[k]'hkS = D[dp + k]'(by have := HNd.out; omega) := List.getElem_drop
              rw [e1] at HS
              generalize D[dp + k]'(by have := HNd.out; omega) = x at hc HS
              have t1 : ((dp : Int) + (k : Int)).toNat = dp + k := by omega
              have j1 : (dp : Int) + (k : Int) < 32 := by omega
              have j2 : (0 : Int) ≤ (dp : Int) + (k : Int) := by omega
              clear e1 hkS
              go_wp2_with (at_builtin; refine app_new rfl _ _ rfl eb _ _ _ cur _ _ (l ++ (D.take dp) ++ [46] ++ (D.drop dp).take k) [x] _ rfl ?cb5 rfl rfl ?cn5 rfl ?cd5 ?cr5 ?_)
              case cb5 => first | rfl | simp
              case cn5 => exact HN.out
              case cd5 => exact HO.out.1
              case cr5 => have := HLim.out; (try simp at this ⊢) <;> omega
              intro w5 hd5 ht5
              have HO5 := Lib.hid (show Dst eb cur (l ++ (D.take dp) ++ [46] ++ (D.drop dp).take k ++ [x]) w5 ∧ Touch [eb] w w5 from ⟨by first | exact hd5 | simpa using hd5, HO.out.2.trans ht5⟩)
              clear hd5 ht5
              go_wp2
              go_roundw
              case rel => exact ⟨k + 1, _, by omega, by go_num, rfl, Lib.hid (by rw [HS.out, ← List.append_assoc, List.length_append, ← HN.out]; rfl), Lib.hid (by rw [HS.out, ← List.append_assoc]; exact HO5.out)⟩
              case measure => simp [intOf]; omega
            · obtain rfl : q = k := by omega
              have HO5 := Lib.hid (show Dst eb cur (l ++ fmF false D (dp : Int)) _ ∧ Touch [eb] w _ from by
                have h := HO.out
                rw [take_all (D.drop dp) _ (by rw [HTd.out]; exact Nat.le_refl _)] at h
                rw [HF.out]
                first | exact h | simpa [sgn] using h)
              have HN5 := Lib.hid (show n = (l ++ fmF false D (dp : Int)).length from by
                have h := HN.out
                rw [take_all (D.drop dp) _ (by rw [HTd.out]; exact Nat.le_refl _)] at h
                rw [HF.out]
                first | exact h | simpa [sgn] using h)
              clear HO HN HO41
              go_wp2
              go_loopw [0, 261] (fun ds ix wr => ∃ (n : Nat), ix = .int .i64 0 ∧ ds = .slice (some ⟨eb, 1, none⟩) n 64 ∧ Hid (n = (l ++ fmF false D (dp : Int)).length) ∧ Hid (Dst eb cur (l ++ fmF false D (dp : Int)) wr ∧ Touch [eb] w wr)) (fun _ _ _ => 0)
              case atStart => exact ⟨_, rfl, rfl, HN5, HO5⟩
              case round =>
                obtain ⟨n, rfl, rfl, HN60, HO61⟩ := hrel
                clear HO5 HN5
                go_wp2
                go_ret
                exact ⟨by rw [HN60.out]; rfl, HO61.out⟩
set_option maxRecDepth 100000 in
set_option maxHeartbeats 3200000 in
theorem fmB_true (eb bb nd dp q n0 : Nat) (cur : Array Value) (l D : List UInt8) (w : World) (hd : Dst eb cur l w) (hD : Digs32 bb D w) (hne : bb ≠ eb) (h1 : 0 < dp) (hq : 0 < q) (hz : nd = dp + q) (hnd : nd ≤ 20) (hn : D.length = nd) (hn0 : n0 = l.length) (hlim : l.length + nd + 3 ≤ 64) :
    Calls Tryz.prog 128 #[.slice (some ⟨eb, 1, none⟩) n0 64, .bool true, .slice (some ⟨bb, 0, none⟩) 32 32, .int .i64 (dp : Int), .int .i64 (nd : Int), .int .i64 (q : Int), .int .u8 102, .bool true] w (FmtPost eb cur (l ++ fmF true D (dp : Int)) w) := by
  have hsl := run_slice32 bb dp (by omega)
  have i1 : (0 : Int) < (dp : Int) := by omega
  have iq : (0 : Int) < (q : Int) := by omega
  have hmin : min (nd : Int) (dp : Int) = (dp : Int) := by omega
  have hmx : max (0 : Int) (-(dp : Int)) = 0 := by omega
  have hmq : min (q : Int) 0 = 0 := by omega
  have hdn : (nd : Int) - (dp : Int) = (q : Int) := by omega
  have hmq2 : max (0 : Int) (q : Int) = (q : Int) := by omega
  have HLim := Lib.hid (show l.length + dp + q + 3 ≤ 64 from by omega)
  have HDg := Lib.hid hD
  have HNd := Lib.hid (show D.length = dp + q from by omega)
  have HNe := Lib.hid hne
  have HF := Lib.hid (show fmF true D (dp : Int) = sgn true ++ (D.take dp ++ 46 :: D.drop dp) from by
    unfold fmF
    rw [if_pos i1, if_pos (by omega)]
    have e1 : (dp : Int).toNat = dp := by omega
    have e2 : (-(dp : Int)).toNat = 0 := by omega
    rw [e1, e2, show dp - D.length = 0 from by omega]
    simp)
  have HO := Lib.hid (show Dst eb cur l w ∧ Touch [eb] w w from ⟨hd, Touch.refl _ _⟩)
  have HN0 := Lib.hid hn0
  have hz2 : nd ≤ 20 := hnd
  have hdp20 : dp ≤ 20 := by omega
  have hq20 : q ≤ 20 := by omega
  have HZ := Lib.hid hz
  have hdp1 : decide (0 < dp) = true := decide_eq_true h1
  have hdp2 : decide ((0 : Int) < (dp : Int)) = true := decide_eq_true i1
  have hq1 : decide (0 < q) = true := decide_eq_true hq
  have hq2 : decide ((0 : Int) < (q : Int)) = true := decide_eq_true iq
  clear hd hD hn hne hn0 hlim hz hnd
  go_enter Tryz.func128, Tryz.ntmps128
  go_wp2_with (at_builtin; refine app_new rfl _ _ rfl eb _ _ _ cur _ _ (l) [45] _ rfl ?cb6 rfl rfl ?cn6 rfl ?cd6 ?cr6 ?_)
  case cb6 => first | rfl | simp
  case cn6 => exact HN0.out
  case cd6 => exact HO.out.1
  case cr6 => have := HLim.out; (try simp at this ⊢) <;> omega
  intro w6 hd6 ht6
  have HO6 := Lib.hid (show Dst eb cur (l ++ [45]) w6 ∧ Touch [eb] w w6 from ⟨by first | exact hd6 | simpa using hd6, HO.out.2.trans ht6⟩)
  clear hd6 ht6
  go_wp2
  have HTl := Lib.hid (show (D.take dp).length = dp from by rw [List.length_take, HNd.out]; omega)
  go_loopw [0, 191] (fun ds ix wr => ∃ (k n : Nat), k ≤ dp ∧ ix = .int .i64 (k : Int) ∧ ds = .slice (some ⟨eb, 1, none⟩) n 64 ∧ Hid (n = (l ++ [45] ++ (D.take dp).take k).length) ∧ Hid (Dst eb cur (l ++ [45] ++ (D.take dp).take k) wr ∧ Touch [eb] w wr)) (fun _ ix _ => dp - (intOf ix).toNat)
  case atStart => exact ⟨0, _, Nat.zero_le _, rfl, rfl, Lib.hid (by rw [List.take_zero, List.append_nil]; exact by rw [HN0.out]; simp), Lib.hid (by rw [List.take_zero, List.append_nil]; exact HO6.out)⟩
  case round =>
    obtain ⟨k, n, hk, rfl, rfl, HN, HO⟩ := hrel
    by_cases hlt : k < dp
    · have hkS : k < (D.take dp).length := by rw [HTl.out]; exact hlt
      have HS := Lib.hid (List.take_succ_eq_append_getElem hkS)
      have hc := digs_at HDg.out HO.out.2 HNe.out k (by have := HNd.out; omega)
      have e1 : (D.take dp)[k]'hkS = D[k]'(by have := HNd.out; omega) := List.getElem_take
      rw [e1] at HS
      generalize D[k]'(by have := HNd.out; omega) = x at hc HS
      clear e1 hkS
      go_wp2_with (at_builtin; refine app_new rfl _ _ rfl eb _ _ _ cur _ _ (l ++ [45] ++ (D.take dp).take k) [x] _ rfl ?cb8 rfl rfl ?cn8 rfl ?cd8 ?cr8 ?_)
      case cb8 => first | rfl | simp
      case cn8 => exact HN.out
      case cd8 => exact HO.out.1
      case cr8 => have := HLim.out; (try simp at this ⊢) <;> omega
      intro w8 hd8 ht8
      have HO8 := Lib.hid (show Dst eb cur (l ++ [45] ++ (D.take dp).take k ++ [x]) w8 ∧ Touch [eb] w w8 from ⟨by first | exact hd8 | simpa using hd8, HO.out.2.trans ht8⟩)
      clear hd8 ht8
      go_wp2
      go_roundw
      case rel => exact ⟨k + 1, _, by omega, by go_num, rfl, Lib.hid (by rw [HS.out, ← List.append_assoc, List.length_append, ← HN.out]; rfl), Lib.hid (by rw [HS.out, ← List.append_assoc]; exact HO8.out)⟩
      case measure => simp [intOf]; omega
    · obtain rfl : dp = k := by omega
      have HN1 := Lib.hid (show n = (l ++ [45] ++ (D.take dp)).length from by have h := HN.out; rw [List.take_take, Nat.min_self] at h; exact h)
      have HO2 := Lib.hid (show Dst eb cur (l ++ [45] ++ (D.take dp)) _ ∧ Touch [eb] w _ from by have h := HO.out; rw [List.take_take, Nat.min_self] at h; exact h)
      clear HO HN
      go_wp2
      go_loopw [0, 203] (fun ds ix wr => ∃ (n : Nat), ix = .int .i64 0 ∧ ds = .slice (some ⟨eb, 1, none⟩) n 64 ∧ Hid (n = (l ++ [45] ++ (D.take dp)).length) ∧ Hid (Dst eb cur (l ++ [45] ++ (D.take dp)) wr ∧ Touch [eb] w wr)) (fun _ _ _ => 0)
      case atStart => exact ⟨_, rfl, rfl, HN1, HO2⟩
      case round =>
        obtain ⟨n, rfl, rfl, HN20, HO21⟩ := hrel
        clear HO2 HN1
        go_wp2_with (at_builtin; refine app_new rfl _ _ rfl eb _ _ _ cur _ _ (l ++ [45] ++ (D.take dp)) [46] _ rfl ?cb9 rfl rfl ?cn9 rfl ?cd9 ?cr9 ?_)
        case cb9 => first | rfl | simp
        case cn9 => exact HN20.out
        case cd9 => exact HO21.out.1
        case cr9 => have := HLim.out; (try simp at this ⊢) <;> omega
        intro w9 hd9 ht9
        have HO9 := Lib.hid (show Dst eb cur (l ++ [45] ++ (D.take dp) ++ [46]) w9 ∧ Touch [eb] w w9 from ⟨by first | exact hd9 | simpa using hd9, HO21.out.2.trans ht9⟩)
        clear hd9 ht9
        go_wp2
        have HN30 := Lib.hid (show n + 1 = (l ++ [45] ++ (D.take dp) ++ [46]).length from by rw [List.length_append, ← HN20.out]; rfl)
        go_loopw [0, 240] (fun ds ix wr => ∃ (n : Nat), ix = .int .i64 0 ∧ ds = .slice (some ⟨eb, 1, none⟩) n 64 ∧ Hid (n = (l ++ [45] ++ (D.take dp) ++ [46]).length) ∧ Hid (Dst eb cur (l ++ [45] ++ (D.take dp) ++ [46]) wr ∧ Touch [eb] w wr)) (fun _ _ _ => 0)
        case atStart => exact ⟨_, rfl, rfl, HN30, HO9⟩
        case round =>
          obtain ⟨n, rfl, rfl, HN40, HO41⟩ := hrel
          clear HO9 HN30
          go_wp2
          have HTd := Lib.hid (show (D.drop dp).length = q from by rw [List.length_drop, HNd.out]; omega)
          go_loopw [0, 247] (fun ds ix wr => ∃ (k n : Nat), k ≤ q ∧ ix = .int .i64 (k : Int) ∧ ds = .slice (some ⟨eb, 1, none⟩) n 64 ∧ Hid (n = (l ++ [45] ++ (D.take dp) ++ [46] ++ (D.drop dp).take k).length) ∧ Hid (Dst eb cur (l ++ [45] ++ (D.take dp) ++ [46] ++ (D.drop dp).take k) wr ∧ Touch [eb] w wr)) (fun _ ix _ => q - (intOf ix).toNat)
          case atStart => exact ⟨0, _, Nat.zero_le _, rfl, rfl, Lib.hid (by rw [List.take_zero, List.append_nil]; exact HN40.out), Lib.hid (by rw [List.take_zero, List.append_nil]; exact HO41.out)⟩
          case round =>
            obtain ⟨k, n, hk, rfl, rfl, HN, HO⟩ := hrel
            by_cases hlt : k < q
            · have hkS : k < (D.drop dp).length := by rw [HTd.out]; exact hlt
              have HS := Lib.hid (List.take_succ_eq_append_getElem hkS)
              have hc := digs_at HDg.out HO.out.2 HNe.out (dp + k) (by have := HNd.out; omega)
              have e1 : (D.drop dp)[k]'hkS = D[dp + k]'(by have := HNd.out; omega) := List.getElem_drop
              rw [e1] at HS
              generalize D[dp + k]'(by have := HNd.out; omega) = x at hc HS
              have t1 : ((dp : Int) + (k : Int)).toNat = dp + k := by omega
              have j1 : (dp : Int) + (k : Int) < 32 := by omega
              have j2 : (0 : Int) ≤ (dp : Int) + (k : Int) := by omega
              clear e1 hkS
              go_wp2_with (at_builtin; refine app_new rfl _ _ rfl eb _ _ _ cur _ _ (l ++ [45] ++ (D.take dp) ++ [46] ++ (D.drop dp).take k) [x] _ rfl ?cb11 rfl rfl ?cn11 rfl ?cd11 ?cr11 ?_)
              case cb11 => first | rfl | simp
              case cn11 => exact HN.out
              case cd11 => exact HO.out.1
              case cr11 => have := HLim.out; (try simp at this ⊢) <;> omega
              intro w11 hd11 ht11
              have HO11 := Lib.hid (show Dst eb cur (l ++ [45] ++ (D.take dp) ++ [46] ++ (D.drop dp).take k ++ [x]) w11 ∧ Touch [eb] w w11 from ⟨by first | exact hd11 | simpa using hd11, HO.out.2.trans ht11⟩)
              clear hd11 ht11
              go_wp2
              go_roundw
              case rel => exact ⟨k + 1, _, by omega, by go_num, rfl, Lib.hid (by rw [HS.out, ← List.append_assoc, List.length_append, ← HN.out]; rfl), Lib.hid (by rw [HS.out, ← List.append_assoc]; exact HO11.out)⟩
              case measure => simp [intOf]; omega
            · obtain rfl : q = k := by omega
              have HO5 := Lib.hid (show Dst eb cur (l ++ fmF true D (dp : Int)) _ ∧ Touch [eb] w _ from by
                have h := HO.out
                rw [take_all (D.drop dp) _ (by rw [HTd.out]; exact Nat.le_refl _)] at h
                rw [HF.out]
                first | exact h | simpa [sgn] using h)
              have HN5 := Lib.hid (show n = (l ++ fmF true D (dp : Int)).length from by
                have h := HN.out
                rw [take_all (D.drop dp) _ (by rw [HTd.out]; exact Nat.le_refl _)] at h
                rw [HF.out]
                first | exact h | simpa [sgn] using h)
              clear HO HN HO41
              go_wp2
              go_loopw [0, 261] (fun ds ix wr => ∃ (n : Nat), ix = .int .i64 0 ∧ ds = .slice (some ⟨eb, 1, none⟩) n 64 ∧ Hid (n = (l ++ fmF true D (dp : Int)).length) ∧ Hid (Dst eb cur (l ++ fmF true D (dp : Int)) wr ∧ Touch [eb] w wr)) (fun _ _ _ => 0)
              case atStart => exact ⟨_, rfl, rfl, HN5, HO5⟩
              case round =>
                obtain ⟨n, rfl, rfl, HN60, HO61⟩ := hrel
                clear HO5 HN5
                go_wp2
                go_ret
                exact ⟨by rw [HN60.out]; rfl, HO61.out⟩
end Go.Proofs.YtdkccihoecpcaaaGreatFmt
