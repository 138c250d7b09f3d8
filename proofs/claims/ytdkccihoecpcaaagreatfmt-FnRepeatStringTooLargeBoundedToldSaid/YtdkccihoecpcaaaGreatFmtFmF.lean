/- A float's text with a point, appended to the encoder's buffer: walked. Conditions: there is room. -/
import Derived.Test.YtdkccihoecpcaaaGreatFmtSetD
namespace Go.Proofs.YtdkccihoecpcaaaGreatFmt
open Go.RowKit Go
/-- What stands behind a text that has been appended. -/
def FmtPost (eb : Nat) (cur : Array Value) (L : List UInt8) (w : World) (e : Ending) (w' : World) : Prop := e = .returned (.slice (some ⟨eb, 1, none⟩) L.length 64) ∧ Dst eb cur L w' ∧ Touch [eb] w w'
theorem digs_at {bb eb : Nat} {D : List UInt8} {w w' : World} (h : Digs32 bb D w) (ht : Touch [eb] w w') (hne : bb ≠ eb) (k : Nat) (hk : k < D.length) : w'.cell? ⟨bb, k, none⟩ = some (.int .u8 ((D[k]'hk).toNat : Int)) := by
  have hc := h k hk
  rw [ht.cell (p := ⟨bb, k, none⟩) (World.block_lt_of_cell? _ _ hc) (by simpa using hne)]
  exact hc
theorem take_all (D : List UInt8) (n : Nat) (h : D.length ≤ n) : D.take n = D := List.take_of_length_le h
set_option maxRecDepth 100000 in
set_option maxHeartbeats 3200000 in
theorem fmA_false (eb bb nd dp n0 : Nat) (cur : Array Value) (l D : List UInt8) (w : World) (hd : Dst eb cur l w) (hD : Digs32 bb D w) (hne : bb ≠ eb) (h1 : 0 < dp) (h2 : nd ≤ dp) (hnd : nd ≤ 20) (hdp : dp ≤ 30) (hn : D.length = nd) (hn0 : n0 = l.length) (hlim : l.length + dp + 1 ≤ 64) :
    Calls Tryz.prog 128 #[.slice (some ⟨eb, 1, none⟩) n0 64, .bool false, .slice (some ⟨bb, 0, none⟩) 32 32, .int .i64 (dp : Int), .int .i64 (nd : Int), .int .i64 0, .int .u8 102, .bool true] w (FmtPost eb cur (l ++ fmF false D (dp : Int)) w) := by
  have hsl := run_slice32 bb nd (by omega)
  have i1 : (0 : Int) < (dp : Int) := by omega
  have hmin : min (nd : Int) (dp : Int) = (nd : Int) := by omega
  have hmax : max (nd : Int) 0 = (nd : Int) := by omega
  obtain ⟨z, hz⟩ : ∃ z : Nat, dp = nd + z := ⟨dp - nd, by omega⟩
  have hdz : (dp : Int) - (nd : Int) = (z : Int) := by omega
  have hmax2 : max (z : Int) 0 = (z : Int) := by omega
  have HLim := Lib.hid (show l.length + nd + z + 1 ≤ 64 from by omega)
  have HDg := Lib.hid hD
  have HNd := Lib.hid hn
  have HNe := Lib.hid hne
  have HF := Lib.hid (show fmF false D (dp : Int) = sgn false ++ (D.take nd ++ List.replicate z 48) from by
    unfold fmF
    rw [if_pos i1, if_neg (by omega), List.append_nil, take_all D _ (by omega), take_all D _ (by omega)]
    congr 3
    omega)
  have HO := Lib.hid (show Dst eb cur l w ∧ Touch [eb] w w from ⟨hd, Touch.refl _ _⟩)
  have HN0 := Lib.hid hn0
  have hz2 : nd + z ≤ 30 := by omega
  have hdp1 : decide (0 < dp) = true := decide_eq_true h1
  have hdp2 : decide ((0 : Int) < (dp : Int)) = true := decide_eq_true i1
  clear hd hD hn hne hn0 hlim h1 h2 hdp
  have HZ := Lib.hid hz
  clear hz
  go_enter Tryz.func128, Tryz.ntmps128
  go_wp2
  have HTl := Lib.hid (show (D.take nd).length = nd from by rw [List.length_take, HNd.out]; omega)
  go_loopw [0, 191] (fun ds ix wr => ∃ (k n : Nat), k ≤ nd ∧ ix = .int .i64 (k : Int) ∧ ds = .slice (some ⟨eb, 1, none⟩) n 64 ∧ Hid (n = (l ++ (D.take nd).take k).length) ∧ Hid (Dst eb cur (l ++ (D.take nd).take k) wr ∧ Touch [eb] w wr)) (fun _ ix _ => nd - (intOf ix).toNat)
  case atStart => exact ⟨0, _, Nat.zero_le _, rfl, rfl, Lib.hid (by rw [List.take_zero, List.append_nil]; exact HN0.out), Lib.hid (by rw [List.take_zero, List.append_nil]; exact HO.out)⟩
  case round =>
    obtain ⟨k, n, hk, rfl, rfl, HN, HO⟩ := hrel
    by_cases hlt : k < nd
    · have hkS : k < (D.take nd).length := by rw [HTl.out]; exact hlt
      have HS := Lib.hid (List.take_succ_eq_append_getElem hkS)
      have hc := digs_at HDg.out HO.out.2 HNe.out k (by have := HNd.out; omega)
      have e1 : (D.take nd)[k]'hkS = D[k]'(by have := HNd.out; omega) := List.getElem_take
      rw [e1] at HS
      generalize D[k]'(by have := HNd.out; omega) = x at hc HS
      clear e1 hkS
      go_wp2_with (at_builtin; refine app_new rfl _ _ rfl eb _ _ _ cur _ _ (l ++ (D.take nd).take k) [x] _ rfl ?cb2 rfl rfl ?cn2 rfl ?cd2 ?cr2 ?_)
      case cb2 => first | rfl | simp
      case cn2 => exact HN.out
      case cd2 => exact HO.out.1
      case cr2 => have := HLim.out; (try simp at this ⊢) <;> omega
      intro w2 hd2 ht2
      have HO2 := Lib.hid (show Dst eb cur (l ++ (D.take nd).take k ++ [x]) w2 ∧ Touch [eb] w w2 from ⟨by first | exact hd2 | simpa using hd2, HO.out.2.trans ht2⟩)
      clear hd2 ht2
      go_wp2
      go_roundw
      case rel => exact ⟨k + 1, _, by omega, by go_num, rfl, Lib.hid (by rw [HS.out, ← List.append_assoc, List.length_append, ← HN.out]; rfl), Lib.hid (by rw [HS.out, ← List.append_assoc]; exact HO2.out)⟩
      case measure => simp [intOf]; omega
    · obtain rfl : nd = k := by omega
      have HN1 := Lib.hid (show n = (l ++ (D.take nd)).length from by have h := HN.out; rw [List.take_take, Nat.min_self] at h; exact h)
      have HO2 := Lib.hid (show Dst eb cur (l ++ (D.take nd)) _ ∧ Touch [eb] w _ from by have h := HO.out; rw [List.take_take, Nat.min_self] at h; exact h)
      clear HO HN
      go_wp2
      obtain ⟨Zs, hZs⟩ : ∃ Zs, Zs = List.replicate z (48 : UInt8) := ⟨_, rfl⟩
      have HZs := Lib.hid hZs
      have HTz := Lib.hid (show Zs.length = z from by rw [hZs]; exact List.length_replicate)
      clear hZs
      go_loopw [0, 203] (fun ds ix wr => ∃ (k n : Nat), k ≤ z ∧ ix = .int .i64 (k : Int) ∧ ds = .slice (some ⟨eb, 1, none⟩) n 64 ∧ Hid (n = (l ++ (D.take nd) ++ Zs.take k).length) ∧ Hid (Dst eb cur (l ++ (D.take nd) ++ Zs.take k) wr ∧ Touch [eb] w wr)) (fun _ ix _ => z - (intOf ix).toNat)
      case atStart => exact ⟨0, _, Nat.zero_le _, rfl, rfl, Lib.hid (by rw [List.take_zero, List.append_nil]; exact HN1.out), Lib.hid (by rw [List.take_zero, List.append_nil]; exact HO2.out)⟩
      case round =>
        obtain ⟨k, n, hk, rfl, rfl, HN, HO⟩ := hrel
        by_cases hlt : k < z
        · have hkS : k < Zs.length := by rw [HTz.out]; exact hlt
          have HS := Lib.hid (List.take_succ_eq_append_getElem hkS)
          have e1 : Zs[k]'hkS = 48 := by simp only [HZs.out]; exact List.getElem_replicate _
          rw [e1] at HS
          clear e1 hkS
          go_wp2_with (at_builtin; refine app_new rfl _ _ rfl eb _ _ _ cur _ _ (l ++ (D.take nd) ++ Zs.take k) [48] _ rfl ?cb4 rfl rfl ?cn4 rfl ?cd4 ?cr4 ?_)
          case cb4 => first | rfl | simp
          case cn4 => exact HN.out
          case cd4 => exact HO.out.1
          case cr4 => have := HLim.out; (try simp at this ⊢) <;> omega
          intro w4 hd4 ht4
          have HO4 := Lib.hid (show Dst eb cur (l ++ (D.take nd) ++ Zs.take k ++ [48]) w4 ∧ Touch [eb] w w4 from ⟨by first | exact hd4 | simpa using hd4, HO.out.2.trans ht4⟩)
          clear hd4 ht4
          go_wp2
          go_roundw
          case rel => exact ⟨k + 1, _, by omega, by go_num, rfl, Lib.hid (by rw [HS.out, ← List.append_assoc, List.length_append, ← HN.out]; rfl), Lib.hid (by rw [HS.out, ← List.append_assoc]; exact HO4.out)⟩
          case measure => simp [intOf]; omega
        · obtain rfl : z = k := by omega
          have HO3 := Lib.hid (show Dst eb cur (l ++ fmF false D (dp : Int)) _ ∧ Touch [eb] w _ from by
            have h := HO.out
            rw [take_all Zs _ (by rw [HTz.out]; exact Nat.le_refl _), HZs.out] at h
            rw [HF.out]
            first | exact h | simpa [sgn] using h)
          have HN3 := Lib.hid (show n = (l ++ fmF false D (dp : Int)).length from by
            have h := HN.out
            rw [take_all Zs _ (by rw [HTz.out]; exact Nat.le_refl _), HZs.out] at h
            rw [HF.out]
            first | exact h | simpa [sgn] using h)
          clear HO HN
          go_wp2
          go_ret
          exact ⟨by rw [HN3.out]; rfl, HO3.out⟩
set_option maxRecDepth 100000 in
set_option maxHeartbeats 3200000 in
theorem fmA_true (eb bb nd dp n0 : Nat) (cur : Array Value) (l D : List UInt8) (w : World) (hd : Dst eb cur l w) (hD : Digs32 bb D w) (hne : bb ≠ eb) (h1 : 0 < dp) (h2 : nd ≤ dp) (hnd : nd ≤ 20) (hdp : dp ≤ 30) (hn : D.length = nd) (hn0 : n0 = l.length) (hlim : l.length + dp + 1 ≤ 64) :
    Calls Tryz.prog 128 #[.slice (some ⟨eb, 1, none⟩) n0 64, .bool true, .slice (some ⟨bb, 0, none⟩) 32 32, .int .i64 (dp : Int), .int .i64 (nd : Int), .int .i64 0, .int .u8 102, .bool true] w (FmtPost eb cur (l ++ fmF true D (dp : Int)) w) := by
  have hsl := run_slice32 bb nd (by omega)
  have i1 : (0 : Int) < (dp : Int) := by omega
  have hmin : min (nd : Int) (dp : Int) = (nd : Int) := by omega
  have hmax : max (nd : Int) 0 = (nd : Int) := by omega
  obtain ⟨z, hz⟩ : ∃ z : Nat, dp = nd + z := ⟨dp - nd, by omega⟩
  have hdz : (dp : Int) - (nd : Int) = (z : Int) := by omega
  have hmax2 : max (z : Int) 0 = (z : Int) := by omega
  have HLim := Lib.hid (show l.length + nd + z + 1 ≤ 64 from by omega)
  have HDg := Lib.hid hD
  have HNd := Lib.hid hn
  have HNe := Lib.hid hne
  have HF := Lib.hid (show fmF true D (dp : Int) = sgn true ++ (D.take nd ++ List.replicate z 48) from by
    unfold fmF
    rw [if_pos i1, if_neg (by omega), List.append_nil, take_all D _ (by omega), take_all D _ (by omega)]
    congr 3
    omega)
  have HO := Lib.hid (show Dst eb cur l w ∧ Touch [eb] w w from ⟨hd, Touch.refl _ _⟩)
  have HN0 := Lib.hid hn0
  have hz2 : nd + z ≤ 30 := by omega
  have hdp1 : decide (0 < dp) = true := decide_eq_true h1
  have hdp2 : decide ((0 : Int) < (dp : Int)) = true := decide_eq_true i1
  clear hd hD hn hne hn0 hlim h1 h2 hdp
  have HZ := Lib.hid hz
  clear hz
  go_enter Tryz.func128, Tryz.ntmps128
  go_wp2_with (at_builtin; refine app_new rfl _ _ rfl eb _ _ _ cur _ _ (l) [45] _ rfl ?cb5 rfl rfl ?cn5 rfl ?cd5 ?cr5 ?_)
  case cb5 => first | rfl | simp
  case cn5 => exact HN0.out
  case cd5 => exact HO.out.1
  case cr5 => have := HLim.out; (try simp at this ⊢) <;> omega
  intro w5 hd5 ht5
  have HO5 := Lib.hid (show Dst eb cur (l ++ [45]) w5 ∧ Touch [eb] w w5 from ⟨by first | exact hd5 | simpa using hd5, HO.out.2.trans ht5⟩)
  clear hd5 ht5
  go_wp2
  have HTl := Lib.hid (show (D.take nd).length = nd from by rw [List.length_take, HNd.out]; omega)
  go_loopw [0, 191] (fun ds ix wr => ∃ (k n : Nat), k ≤ nd ∧ ix = .int .i64 (k : Int) ∧ ds = .slice (some ⟨eb, 1, none⟩) n 64 ∧ Hid (n = (l ++ [45] ++ (D.take nd).take k).length) ∧ Hid (Dst eb cur (l ++ [45] ++ (D.take nd).take k) wr ∧ Touch [eb] w wr)) (fun _ ix _ => nd - (intOf ix).toNat)
  case atStart => exact ⟨0, _, Nat.zero_le _, rfl, rfl, Lib.hid (by rw [List.take_zero, List.append_nil]; exact by rw [HN0.out]; simp), Lib.hid (by rw [List.take_zero, List.append_nil]; exact HO5.out)⟩
  case round =>
    obtain ⟨k, n, hk, rfl, rfl, HN, HO⟩ := hrel
    by_cases hlt : k < nd
    · have hkS : k < (D.take nd).length := by rw [HTl.out]; exact hlt
      have HS := Lib.hid (List.take_succ_eq_append_getElem hkS)
      have hc := digs_at HDg.out HO.out.2 HNe.out k (by have := HNd.out; omega)
      have e1 : (D.take nd)[k]'hkS = D[k]'(by have := HNd.out; omega) := List.getElem_take
      rw [e1] at HS
      generalize D[k]'(by have := HNd.out; omega) = x at hc HS
      clear e1 hkS
      go_wp2_with (at_builtin; refine app_new rfl _ _ rfl eb _ _ _ cur _ _ (l ++ [45] ++ (D.take nd).take k) [x] _ rfl ?cb7 rfl rfl ?cn7 rfl ?cd7 ?cr7 ?_)
      case cb7 => first | rfl | simp
      case cn7 => exact HN.out
      case cd7 => exact HO.out.1
      case cr7 => have := HLim.out; (try simp at this ⊢) <;> omega
      intro w7 hd7 ht7
      have HO7 := Lib.hid (show Dst eb cur (l ++ [45] ++ (D.take nd).take k ++ [x]) w7 ∧ Touch [eb] w w7 from ⟨by first | exact hd7 | simpa using hd7, HO.out.2.trans ht7⟩)
      clear hd7 ht7
      go_wp2
      go_roundw
      case rel => exact ⟨k + 1, _, by omega, by go_num, rfl, Lib.hid (by rw [HS.out, ← List.append_assoc, List.length_append, ← HN.out]; rfl), Lib.hid (by rw [HS.out, ← List.append_assoc]; exact HO7.out)⟩
      case measure => simp [intOf]; omega
    · obtain rfl : nd = k := by omega
      have HN1 := Lib.hid (show n = (l ++ [45] ++ (D.take nd)).length from by have h := HN.out; rw [List.take_take, Nat.min_self] at h; exact h)
      have HO2 := Lib.hid (show Dst eb cur (l ++ [45] ++ (D.take nd)) _ ∧ Touch [eb] w _ from by have h := HO.out; rw [List.take_take, Nat.min_self] at h; exact h)
      clear HO HN
      go_wp2
      obtain ⟨Zs, hZs⟩ : ∃ Zs, Zs = List.replicate z (48 : UInt8) := ⟨_, rfl⟩
      have HZs := Lib.hid hZs
      have HTz := Lib.hid (show Zs.length = z from by rw [hZs]; exact List.length_replicate)
      clear hZs
      go_loopw [0, 203] (fun ds ix wr => ∃ (k n : Nat), k ≤ z ∧ ix = .int .i64 (k : Int) ∧ ds = .slice (some ⟨eb, 1, none⟩) n 64 ∧ Hid (n = (l ++ [45] ++ (D.take nd) ++ Zs.take k).length) ∧ Hid (Dst eb cur (l ++ [45] ++ (D.take nd) ++ Zs.take k) wr ∧ Touch [eb] w wr)) (fun _ ix _ => z - (intOf ix).toNat)
      case atStart => exact ⟨0, _, Nat.zero_le _, rfl, rfl, Lib.hid (by rw [List.take_zero, List.append_nil]; exact HN1.out), Lib.hid (by rw [List.take_zero, List.append_nil]; exact HO2.out)⟩
      case round =>
        obtain ⟨k, n, hk, rfl, rfl, HN, HO⟩ := hrel
        by_cases hlt : k < z
        · have hkS : k < Zs.length := by rw [HTz.out]; exact hlt
          have HS := Lib.hid (List.take_succ_eq_append_getElem hkS)
          have e1 : Zs[k]'hkS = 48 := by simp only [HZs.out]; exact List.getElem_replicate _
          rw [e1] at HS
          clear e1 hkS
          go_wp2_with (at_builtin; refine app_new rfl _ _ rfl eb _ _ _ cur _ _ (l ++ [45] ++ (D.take nd) ++ Zs.take k) [48] _ rfl ?cb9 rfl rfl ?cn9 rfl ?cd9 ?cr9 ?_)
          case cb9 => first | rfl | simp
          case cn9 => exact HN.out
          case cd9 => exact HO.out.1
          case cr9 => have := HLim.out; (try simp at this ⊢) <;> omega
          intro w9 hd9 ht9
          have HO9 := Lib.hid (show Dst eb cur (l ++ [45] ++ (D.take nd) ++ Zs.take k ++ [48]) w9 ∧ Touch [eb] w w9 from ⟨by first | exact hd9 | simpa using hd9, HO.out.2.trans ht9⟩)
          clear hd9 ht9
          go_wp2
          go_roundw
          case rel => exact ⟨k + 1, _, by omega, by go_num, rfl, Lib.hid (by rw [HS.out, ← List.append_assoc, List.length_append, ← HN.out]; rfl), Lib.hid (by rw [HS.out, ← List.append_assoc]; exact HO9.out)⟩
          case measure => simp [intOf]; omega
        · obtain rfl : z = k := by omega
          have HO3 := Lib.hid (show Dst eb cur (l ++ fmF true D (dp : Int)) _ ∧ Touch [eb] w _ from by
            have h := HO.out
            rw [take_all Zs _ (by rw [HTz.out]; exact Nat.le_refl _), HZs.out] at h
            rw [HF.out]
            first | exact h | simpa [sgn] using h)
          have HN3 := Lib.hid (show n = (l ++ fmF true D (dp : Int)).length from by
            have h := HN.out
            rw [take_all Zs _ (by rw [HTz.out]; exact Nat.le_refl _), HZs.out] at h
            rw [HF.out]
            first | exact h | simpa [sgn] using h)
          clear HO HN
          go_wp2
          go_ret
          exact ⟨by rw [HN3.out]; rfl, HO3.out⟩
end Go.Proofs.YtdkccihoecpcaaaGreatFmt
