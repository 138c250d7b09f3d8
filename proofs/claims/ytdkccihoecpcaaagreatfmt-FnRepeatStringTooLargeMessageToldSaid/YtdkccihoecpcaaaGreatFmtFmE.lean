/- A float's text with an exponent, appended to the encoder's buffer: walked. Conditions: there is room. -/
import Derived.Test.YtdkccihoecpcaaaGreatFmtFmF
import Derived.Deep.RegionLaw
namespace Go.Proofs.YtdkccihoecpcaaaGreatFmt
open Go.RowKit Go
set_option maxRecDepth 100000 in
theorem run_slice1 (bb nd r : Nat) (h : nd ≤ 32) (hr : nd = r + 1) (W : World) : (Instr.slice 29 (.slice (some ⟨bb, 0, none⟩) 32 32) (some (.int .i64 1)) (some (.int .i64 (nd : Int))) none).run Tryz.prog W = .ok (.slice (some ⟨bb, 1, none⟩) r 31) W := by
  rw [run_slice_lh (P := Tryz.prog) W 29 (some ⟨bb, 0, none⟩) 32 32 Tryz.underlying29 .i64 .i64 1 (nd : Int) (by omega) (by omega) (by omega)]
  have hsz : ∀ W, (sizeOf (Tryz.prog.elem 29)).run Tryz.prog W = .ok 1 W := fun W => by kernel_rfl
  rw [hsz]
  subst hr
  simp [sliced, Result.andThen, Addr.add]
/-- Bytes that lie somewhere are appended: a step of a region that draws. -/
theorem step_app_dst {ops : Array Oper} {o : Oper} {a : Act} {K : Act → World → Prop} {Q : Exit → Act → World → Prop} {E : Prop} (hgd : o.guard = none) (sl x : Operand)
    (ho : o.op = .call { callee := .builtin .append, args := #[sl, x], argTypes := #[29, 29 ] }) (eb n m c : Nat) (sa : Addr) (cur : Array Value) (l news : List UInt8) (w : World)
    (hd : Dst eb cur l w) (hn : n = l.length) (hm : m = news.length) (hs : a.eval sl = .slice (some ⟨eb, 1, none⟩) n 64) (hx : a.eval x = .slice (some sa) m c) (hr : l.length + news.length ≤ 64)
    (hc : ∀ j u, (Lib.byteCells news)[j]? = some u → w.cell? (sa.add j) = some u)
    (h : ∀ w', Dst eb cur (l ++ news) w' → Touch [eb] w w' → K (a.put o.dst (.slice (some ⟨eb, 1, none⟩) (n + m) 64)) w') : if Region.wanted o (yielded ops a.tmps) = true then Oper.wp Tryz.prog o a w K Q else E := by
  have hw : Region.wanted o (yielded ops a.tmps) = true := by simp [Region.wanted, hgd]
  rw [if_pos hw]
  obtain ⟨i, hi, hz⟩ := info_u8
  subst hn hm
  have hsz := dst_size hd
  have hap := run_append_at (P := Tryz.prog) w 29 o.type 5 66 i Tryz.underlying29 hi hz eb 1 l.length 64 _ hd.1 sa news.length c (Lib.byteCells news) (bc_len news) hc (Lib.byteCells_one _) hr (by rw [hsz]; omega)
  unfold Oper.wp execOp
  simp only [ho, resolve, invoke, builtin, Sem.run_bind, Sem.run_pure, Result.andThen_ok, List.map_toArray, List.map_cons, List.map_nil, hs, hx, hap]
  exact h _ (dst_put hd hr) ((Touch.refl [eb] w).setRow eb (.inl (by simp)) _)
theorem dig8 (n : Nat) (h : n < 256) : (UInt8.ofNat n).toNat = n := by
  rw [UInt8.toNat_ofNat']
  exact Nat.mod_eq_of_lt h
theorem cell_keep {bb eb k : Nat} {v : Value} {w w' : World} (h : w.cell? ⟨bb, k, none⟩ = some v) (ht : Touch [eb] w w') (hne : bb ≠ eb) : w'.cell? ⟨bb, k, none⟩ = some v := by
  rw [ht.cell (p := ⟨bb, k, none⟩) (World.block_lt_of_cell? _ _ h) (by simpa using hne)]
  exact h
set_option maxRecDepth 100000 in
set_option maxHeartbeats 6400000 in
theorem fmE_false (eb bb nd x n0 : Nat) (dp : Int) (cur : Array Value) (l D : List UInt8) (w : World) (hd : Dst eb cur l w) (hD : Digs32 bb D w) (hne : bb ≠ eb) (h1 : 1 < nd) (hE : dp - 1 = (x : Int)) (hx : x < 400) (hnd : nd ≤ 20) (hn : D.length = nd) (hn0 : n0 = l.length) (hlim : l.length + nd + 8 ≤ 64) :
    Calls Tryz.prog 128 #[.slice (some ⟨eb, 1, none⟩) n0 64, .bool false, .slice (some ⟨bb, 0, none⟩) 32 32, .int .i64 dp, .int .i64 (nd : Int), .int .i64 ((nd : Int) - 1), .int .u8 101, .bool true] w (FmtPost eb cur (l ++ fmE false D dp) w) := by
  obtain ⟨d0, hd0⟩ : ∃ d, d = D[0]'(by omega) := ⟨_, rfl⟩
  have hc0 := digs_at hD (Touch.refl [eb] w) hne 0 (by omega)
  rw [← hd0] at hc0
  obtain ⟨R, hR⟩ : ∃ R, R = D.drop 1 := ⟨_, rfl⟩
  have HTd := Lib.hid (show R.length + 1 = nd from by rw [hR, List.length_drop]; omega)
  obtain ⟨X, hX⟩ : ∃ X, X = exT (dp - 1) := ⟨_, rfl⟩
  have HF := Lib.hid (show fmE false D dp = sgn false ++ [d0] ++ (46 :: R) ++ [101] ++ X from by
    unfold fmE
    rw [if_pos (by omega), ← hX, ← hR, hd0]
    congr 4
    cases D with
    | nil => simp at hn; omega
    | cons a b => rfl)
  have HLim := Lib.hid hlim
  have HO := Lib.hid (show Dst eb cur l w ∧ Touch [eb] w w from ⟨hd, Touch.refl _ _⟩)
  have HN := Lib.hid hn0
  have hnz : ((nd : Int) != 0) = true := by rw [bne_iff_ne]; omega
  have hp0 : (0 : Int) < (nd : Int) - 1 := by omega
  have hm1 : (nd : Int) - 1 + 1 = (nd : Int) := by omega
  have hm2 : min (nd : Int) (nd : Int) = (nd : Int) := by omega
  have h1i : (1 : Int) < (nd : Int) := by omega
  have nd20 : nd ≤ 20 := hnd
  obtain ⟨r, hr⟩ : ∃ r, nd = r + 1 := ⟨nd - 1, by omega⟩
  have HRl := Lib.hid (show r = R.length from by have := HTd.out; omega)
  have hsl : ∀ W, (Instr.slice 29 (.slice (some ⟨bb, 0, none⟩) 32 32) (some (.int .i64 1)) (some (.int .i64 (nd : Int))) none).run Tryz.prog W = .ok (.slice (some ⟨bb, 1, none⟩) r 31) W := run_slice1 bb nd r (by omega) hr
  have HDR := Lib.hid (show ∀ W, Touch [eb] w W → ∀ j u, (Lib.byteCells R)[j]? = some u → W.cell? ((⟨bb, 1, none⟩ : Addr).add j) = some u from fun W ht j u hj => by
    have hjl : j < R.length := by
      have := (List.getElem?_eq_some_iff.1 hj).1
      rwa [bc_len] at this
    have h2 : 1 + j < D.length := by rw [hR, List.length_drop] at hjl; omega
    rw [Lib.addr_add, digs_at hD ht hne (1 + j) h2, ← hj]
    simp only [Lib.byteCells, hR, List.getElem?_map, List.getElem?_drop]
    rw [List.getElem?_eq_getElem h2]
    rfl)
  clear hr
  have HE := Lib.hid hE
  have HX := Lib.hid hX
  clear hd hD hn hn0 hR hd0 hX hlim
  go_enter Tryz.func128, Tryz.ntmps128
  go_wp2_with (at_builtin; refine app_new rfl _ _ rfl eb _ _ _ cur _ _ (l) [d0] _ rfl ?cb1 rfl rfl ?cn1 rfl ?cd1 ?cr1 ?_)
  case cb1 => rfl
  case cn1 => first | exact HN.out | simpa using HN.out
  case cd1 => first | exact HO.out.1 | simpa using HO.out.1
  case cr1 => have := HLim.out; have := HTd.out; (try simp at this ⊢) <;> omega
  intro w1 hd1 ht1
  have HO1 := Lib.hid (show Dst eb cur ((l) ++ [d0]) w1 ∧ Touch [eb] w w1 from ⟨by first | exact hd1 | simpa using hd1, HO.out.2.trans ht1⟩)
  have HM1 := Lib.hid (show _ + 1 = ((l) ++ [d0]).length from by rw [List.length_append, ← HN.out]; rfl)
  clear hd1 ht1 HO HN
  go_wp2_with (at_builtin; refine app_new rfl _ _ rfl eb _ _ _ cur _ _ ((l) ++ [d0]) [46] _ rfl ?cb2 rfl rfl ?cn2 rfl ?cd2 ?cr2 ?_)
  case cb2 => first | rfl | simp
  case cn2 => first | exact HM1.out | simpa using HM1.out
  case cd2 => first | exact HO1.out.1 | simpa using HO1.out.1
  case cr2 => have := HLim.out; have := HTd.out; (try simp at this ⊢) <;> omega
  intro w2 hd2 ht2
  have HO2 := Lib.hid (show Dst eb cur (((l) ++ [d0]) ++ [46]) w2 ∧ Touch [eb] w w2 from ⟨by first | exact hd2 | simpa using hd2, HO1.out.2.trans ht2⟩)
  have HM2 := Lib.hid (show _ + 1 = (((l) ++ [d0]) ++ [46]).length from by rw [List.length_append, ← HM1.out]; rfl)
  clear hd2 ht2 HO1 HM1
  have HLr := Lib.hid (show (((l) ++ [d0]) ++ [46]).length + R.length ≤ 64 from by have := HLim.out; have := HTd.out; (try simp at this ⊢) <;> omega)
  go_wp2_with (at_builtin; refine app_dst rfl _ _ rfl eb _ r 31 ⟨bb, 1, none⟩ cur (((l) ++ [d0]) ++ [46]) R _ ?cs90 ?cx90 HM2.out HRl.out HO2.out.1 HLr.out (HDR.out _ HO2.out.2) ?_)
  case cs90 => rfl
  case cx90 => rfl
  intro w90 hd90 ht90
  have HO90 := Lib.hid (show Dst eb cur ((((l) ++ [d0]) ++ [46]) ++ R) w90 ∧ Touch [eb] w w90 from ⟨by first | exact hd90 | simpa using hd90, HO2.out.2.trans ht90⟩)
  have HM90 := Lib.hid (show _ + r = ((((l) ++ [d0]) ++ [46]) ++ R).length from by rw [List.length_append, ← HM2.out, ← HRl.out])
  clear hd90 ht90 HO2 HM2
  go_wp2
  go_loopw [0, 114] (fun ds ix wr => ∃ (n : Nat), ix = .int .i64 0 ∧ ds = .slice (some ⟨eb, 1, none⟩) n 64 ∧ Hid (n = ((((l) ++ [d0]) ++ [46]) ++ R).length) ∧ Hid (Dst eb cur ((((l) ++ [d0]) ++ [46]) ++ R) wr ∧ Touch [eb] w wr)) (fun _ _ _ => 0)
  case atStart => exact ⟨_, rfl, rfl, HM90, HO90⟩
  case round =>
    obtain ⟨n, rfl, rfl, HM95, HO96⟩ := hrel
    clear HO90 HM90
    go_wp2_with (at_builtin; refine app_new rfl _ _ rfl eb _ _ _ cur _ _ ((((l) ++ [d0]) ++ [46]) ++ R) [101] _ rfl ?cb3 rfl rfl ?cn3 rfl ?cd3 ?cr3 ?_)
    case cb3 => first | rfl | simp
    case cn3 => first | exact HM95.out | simpa using HM95.out
    case cd3 => first | exact HO96.out.1 | simpa using HO96.out.1
    case cr3 => have := HLim.out; have := HTd.out; (try simp at this ⊢) <;> omega
    intro w3 hd3 ht3
    have HO3 := Lib.hid (show Dst eb cur (((((l) ++ [d0]) ++ [46]) ++ R) ++ [101]) w3 ∧ Touch [eb] w w3 from ⟨by first | exact hd3 | simpa using hd3, HO96.out.2.trans ht3⟩)
    have HM3 := Lib.hid (show _ + 1 = (((((l) ++ [d0]) ++ [46]) ++ R) ++ [101]).length from by rw [List.length_append, ← HM95.out]; rfl)
    clear hd3 ht3 HO96 HM95
    go_wp2_with (at_builtin; refine app_new rfl _ _ rfl eb _ _ _ cur _ _ (((((l) ++ [d0]) ++ [46]) ++ R) ++ [101]) [43] _ rfl ?cb4 rfl rfl ?cn4 rfl ?cd4 ?cr4 ?_)
    case cb4 => first | rfl | simp
    case cn4 => first | exact HM3.out | simpa using HM3.out
    case cd4 => first | exact HO3.out.1 | simpa using HO3.out.1
    case cr4 => have := HLim.out; have := HTd.out; (try simp at this ⊢) <;> omega
    intro w4 hd4 ht4
    have HO4 := Lib.hid (show Dst eb cur ((((((l) ++ [d0]) ++ [46]) ++ R) ++ [101]) ++ [43]) w4 ∧ Touch [eb] w w4 from ⟨by first | exact hd4 | simpa using hd4, HO3.out.2.trans ht4⟩)
    have HM4 := Lib.hid (show _ + 1 = ((((((l) ++ [d0]) ++ [46]) ++ R) ++ [101]) ++ [43]).length from by rw [List.length_append, ← HM3.out]; rfl)
    clear hd4 ht4 HO3 HM3
    by_cases h10 : x < 10
    · have hi10 : (x : Int) < 10 := by omega
      obtain ⟨y0, hy0⟩ : ∃ y, y = UInt8.ofNat (48 + x) := ⟨_, rfl⟩
      have hv0 : (x : Int) + 48 = (y0.toNat : Int) := by rw [hy0, dig8 _ (by omega)]; omega
      have HV := Lib.hid (show l ++ fmE false D dp = ((((((l) ++ [d0]) ++ [46]) ++ R) ++ [101]) ++ [43]) ++ [48, y0] from by
        have hE := HE.out
        rw [HF.out, HX.out, hE]
        have e1 : ((x : Int)).natAbs = x := by omega
        unfold exT
        rw [e1, if_neg (by omega), if_pos h10, ← hy0]
        simp [sgn])
      clear hy0
      go_wp2_with (at_builtin; refine app_new rfl _ _ rfl eb _ _ _ cur _ _ ((((((l) ++ [d0]) ++ [46]) ++ R) ++ [101]) ++ [43]) [48, y0] _ rfl ?cb5 rfl rfl ?cn5 rfl ?cd5 ?cr5 ?_)
      case cb5 => simp
      case cn5 => first | exact HM4.out | simpa using HM4.out
      case cd5 => first | exact HO4.out.1 | simpa using HO4.out.1
      case cr5 => have := HLim.out; have := HTd.out; (try simp at this ⊢) <;> omega
      intro w5 hd5 ht5
      have HO5 := Lib.hid (show Dst eb cur (((((((l) ++ [d0]) ++ [46]) ++ R) ++ [101]) ++ [43]) ++ [48, y0]) w5 ∧ Touch [eb] w w5 from ⟨by first | exact hd5 | simpa using hd5, HO4.out.2.trans ht5⟩)
      have HM5 := Lib.hid (show _ + 2 = (((((((l) ++ [d0]) ++ [46]) ++ R) ++ [101]) ++ [43]) ++ [48, y0]).length from by rw [List.length_append, ← HM4.out]; rfl)
      clear hd5 ht5 HO4 HM4
      go_wp2
      go_ret
      exact ⟨by rw [HV.out, ← HM5.out]; rfl, by rw [HV.out]; exact HO5.out⟩
    by_cases h100 : x < 100
    · have hi10 : ¬ ((x : Int) < 10) := by omega
      have hi100 : (x : Int) < 100 := by omega
      obtain ⟨y0, hy0⟩ : ∃ y, y = UInt8.ofNat (48 + x / 10) := ⟨_, rfl⟩
      have hv0 : (x : Int) / 10 + 48 = (y0.toNat : Int) := by rw [hy0, dig8 _ (by omega)]; omega
      obtain ⟨y1, hy1⟩ : ∃ y, y = UInt8.ofNat (48 + x % 10) := ⟨_, rfl⟩
      have hv1 : (x : Int) % 10 + 48 = (y1.toNat : Int) := by rw [hy1, dig8 _ (by omega)]; omega
      have HV := Lib.hid (show l ++ fmE false D dp = ((((((l) ++ [d0]) ++ [46]) ++ R) ++ [101]) ++ [43]) ++ [y0, y1] from by
        have hE := HE.out
        rw [HF.out, HX.out, hE]
        have e1 : ((x : Int)).natAbs = x := by omega
        unfold exT
        rw [e1, if_neg (by omega), if_neg h10, if_pos h100, ← hy0, ← hy1]
        simp [sgn])
      clear hy0 hy1
      go_wp2_with (at_builtin; refine app_new rfl _ _ rfl eb _ _ _ cur _ _ ((((((l) ++ [d0]) ++ [46]) ++ R) ++ [101]) ++ [43]) [y0, y1] _ rfl ?cb6 rfl rfl ?cn6 rfl ?cd6 ?cr6 ?_)
      case cb6 => simp
      case cn6 => first | exact HM4.out | simpa using HM4.out
      case cd6 => first | exact HO4.out.1 | simpa using HO4.out.1
      case cr6 => have := HLim.out; have := HTd.out; (try simp at this ⊢) <;> omega
      intro w6 hd6 ht6
      have HO6 := Lib.hid (show Dst eb cur (((((((l) ++ [d0]) ++ [46]) ++ R) ++ [101]) ++ [43]) ++ [y0, y1]) w6 ∧ Touch [eb] w w6 from ⟨by first | exact hd6 | simpa using hd6, HO4.out.2.trans ht6⟩)
      have HM6 := Lib.hid (show _ + 2 = (((((((l) ++ [d0]) ++ [46]) ++ R) ++ [101]) ++ [43]) ++ [y0, y1]).length from by rw [List.length_append, ← HM4.out]; rfl)
      clear hd6 ht6 HO4 HM4
      go_wp2
      go_ret
      exact ⟨by rw [HV.out, ← HM6.out]; rfl, by rw [HV.out]; exact HO6.out⟩
    · have hi10 : ¬ ((x : Int) < 10) := by omega
      have hi100 : ¬ ((x : Int) < 100) := by omega
      obtain ⟨y0, hy0⟩ : ∃ y, y = UInt8.ofNat (48 + x / 100) := ⟨_, rfl⟩
      have hv0 : (x : Int) / 100 + 48 = (y0.toNat : Int) := by rw [hy0, dig8 _ (by omega)]; omega
      obtain ⟨y1, hy1⟩ : ∃ y, y = UInt8.ofNat (48 + x / 10 % 10) := ⟨_, rfl⟩
      have hv1 : (x : Int) / 10 % 10 + 48 = (y1.toNat : Int) := by rw [hy1, dig8 _ (by omega)]; omega
      obtain ⟨y2, hy2⟩ : ∃ y, y = UInt8.ofNat (48 + x % 10) := ⟨_, rfl⟩
      have hv2 : (x : Int) % 10 + 48 = (y2.toNat : Int) := by rw [hy2, dig8 _ (by omega)]; omega
      have HV := Lib.hid (show l ++ fmE false D dp = ((((((l) ++ [d0]) ++ [46]) ++ R) ++ [101]) ++ [43]) ++ [y0, y1, y2] from by
        have hE := HE.out
        rw [HF.out, HX.out, hE]
        have e1 : ((x : Int)).natAbs = x := by omega
        unfold exT
        rw [e1, if_neg (by omega), if_neg h10, if_neg h100, ← hy0, ← hy1, ← hy2]
        simp [sgn])
      clear hy0 hy1 hy2
      go_wp2_with (at_builtin; refine app_new rfl _ _ rfl eb _ _ _ cur _ _ ((((((l) ++ [d0]) ++ [46]) ++ R) ++ [101]) ++ [43]) [y0, y1, y2] _ rfl ?cb7 rfl rfl ?cn7 rfl ?cd7 ?cr7 ?_)
      case cb7 => simp
      case cn7 => first | exact HM4.out | simpa using HM4.out
      case cd7 => first | exact HO4.out.1 | simpa using HO4.out.1
      case cr7 => have := HLim.out; have := HTd.out; (try simp at this ⊢) <;> omega
      intro w7 hd7 ht7
      have HO7 := Lib.hid (show Dst eb cur (((((((l) ++ [d0]) ++ [46]) ++ R) ++ [101]) ++ [43]) ++ [y0, y1, y2]) w7 ∧ Touch [eb] w w7 from ⟨by first | exact hd7 | simpa using hd7, HO4.out.2.trans ht7⟩)
      have HM7 := Lib.hid (show _ + 3 = (((((((l) ++ [d0]) ++ [46]) ++ R) ++ [101]) ++ [43]) ++ [y0, y1, y2]).length from by rw [List.length_append, ← HM4.out]; rfl)
      clear hd7 ht7 HO4 HM4
      go_wp2
      go_ret
      exact ⟨by rw [HV.out, ← HM7.out]; rfl, by rw [HV.out]; exact HO7.out⟩
set_option maxRecDepth 100000 in
set_option maxHeartbeats 6400000 in
theorem fmE_false_n (eb bb nd x n0 : Nat) (dp : Int) (cur : Array Value) (l D : List UInt8) (w : World) (hd : Dst eb cur l w) (hD : Digs32 bb D w) (hne : bb ≠ eb) (h1 : 1 < nd) (hE : dp - 1 = -(x : Int)) (hx1 : 0 < x) (hx : x < 400) (hnd : nd ≤ 20) (hn : D.length = nd) (hn0 : n0 = l.length) (hlim : l.length + nd + 8 ≤ 64) :
    Calls Tryz.prog 128 #[.slice (some ⟨eb, 1, none⟩) n0 64, .bool false, .slice (some ⟨bb, 0, none⟩) 32 32, .int .i64 dp, .int .i64 (nd : Int), .int .i64 ((nd : Int) - 1), .int .u8 101, .bool true] w (FmtPost eb cur (l ++ fmE false D dp) w) := by
  obtain ⟨d0, hd0⟩ : ∃ d, d = D[0]'(by omega) := ⟨_, rfl⟩
  have hc0 := digs_at hD (Touch.refl [eb] w) hne 0 (by omega)
  rw [← hd0] at hc0
  obtain ⟨R, hR⟩ : ∃ R, R = D.drop 1 := ⟨_, rfl⟩
  have HTd := Lib.hid (show R.length + 1 = nd from by rw [hR, List.length_drop]; omega)
  obtain ⟨X, hX⟩ : ∃ X, X = exT (dp - 1) := ⟨_, rfl⟩
  have HF := Lib.hid (show fmE false D dp = sgn false ++ [d0] ++ (46 :: R) ++ [101] ++ X from by
    unfold fmE
    rw [if_pos (by omega), ← hX, ← hR, hd0]
    congr 4
    cases D with
    | nil => simp at hn; omega
    | cons a b => rfl)
  have HLim := Lib.hid hlim
  have HO := Lib.hid (show Dst eb cur l w ∧ Touch [eb] w w from ⟨hd, Touch.refl _ _⟩)
  have HN := Lib.hid hn0
  have hnz : ((nd : Int) != 0) = true := by rw [bne_iff_ne]; omega
  have hp0 : (0 : Int) < (nd : Int) - 1 := by omega
  have hm1 : (nd : Int) - 1 + 1 = (nd : Int) := by omega
  have hm2 : min (nd : Int) (nd : Int) = (nd : Int) := by omega
  have h1i : (1 : Int) < (nd : Int) := by omega
  have nd20 : nd ≤ 20 := hnd
  obtain ⟨r, hr⟩ : ∃ r, nd = r + 1 := ⟨nd - 1, by omega⟩
  have HRl := Lib.hid (show r = R.length from by have := HTd.out; omega)
  have hsl : ∀ W, (Instr.slice 29 (.slice (some ⟨bb, 0, none⟩) 32 32) (some (.int .i64 1)) (some (.int .i64 (nd : Int))) none).run Tryz.prog W = .ok (.slice (some ⟨bb, 1, none⟩) r 31) W := run_slice1 bb nd r (by omega) hr
  have HDR := Lib.hid (show ∀ W, Touch [eb] w W → ∀ j u, (Lib.byteCells R)[j]? = some u → W.cell? ((⟨bb, 1, none⟩ : Addr).add j) = some u from fun W ht j u hj => by
    have hjl : j < R.length := by
      have := (List.getElem?_eq_some_iff.1 hj).1
      rwa [bc_len] at this
    have h2 : 1 + j < D.length := by rw [hR, List.length_drop] at hjl; omega
    rw [Lib.addr_add, digs_at hD ht hne (1 + j) h2, ← hj]
    simp only [Lib.byteCells, hR, List.getElem?_map, List.getElem?_drop]
    rw [List.getElem?_eq_getElem h2]
    rfl)
  clear hr
  have HE := Lib.hid hE
  have HX := Lib.hid hX
  clear hd hD hn hn0 hR hd0 hX hlim
  obtain ⟨E, hE2⟩ : ∃ E, E = dp - 1 := ⟨_, rfl⟩
  have hE3 : dp - 1 = E := hE2.symm
  have hE4 : E < 0 := by omega
  have hE5 : -E = (x : Int) := by omega
  clear hE2 hE
  go_enter Tryz.func128, Tryz.ntmps128
  go_wp2_with (at_builtin; refine app_new rfl _ _ rfl eb _ _ _ cur _ _ (l) [d0] _ rfl ?cb8 rfl rfl ?cn8 rfl ?cd8 ?cr8 ?_)
  case cb8 => rfl
  case cn8 => first | exact HN.out | simpa using HN.out
  case cd8 => first | exact HO.out.1 | simpa using HO.out.1
  case cr8 => have := HLim.out; have := HTd.out; (try simp at this ⊢) <;> omega
  intro w8 hd8 ht8
  have HO8 := Lib.hid (show Dst eb cur ((l) ++ [d0]) w8 ∧ Touch [eb] w w8 from ⟨by first | exact hd8 | simpa using hd8, HO.out.2.trans ht8⟩)
  have HM8 := Lib.hid (show _ + 1 = ((l) ++ [d0]).length from by rw [List.length_append, ← HN.out]; rfl)
  clear hd8 ht8 HO HN
  go_wp2_with (at_builtin; refine app_new rfl _ _ rfl eb _ _ _ cur _ _ ((l) ++ [d0]) [46] _ rfl ?cb9 rfl rfl ?cn9 rfl ?cd9 ?cr9 ?_)
  case cb9 => first | rfl | simp
  case cn9 => first | exact HM8.out | simpa using HM8.out
  case cd9 => first | exact HO8.out.1 | simpa using HO8.out.1
  case cr9 => have := HLim.out; have := HTd.out; (try simp at this ⊢) <;> omega
  intro w9 hd9 ht9
  have HO9 := Lib.hid (show Dst eb cur (((l) ++ [d0]) ++ [46]) w9 ∧ Touch [eb] w w9 from ⟨by first | exact hd9 | simpa using hd9, HO8.out.2.trans ht9⟩)
  have HM9 := Lib.hid (show _ + 1 = (((l) ++ [d0]) ++ [46]).length from by rw [List.length_append, ← HM8.out]; rfl)
  clear hd9 ht9 HO8 HM8
  have HLr := Lib.hid (show (((l) ++ [d0]) ++ [46]).length + R.length ≤ 64 from by have := HLim.out; have := HTd.out; (try simp at this ⊢) <;> omega)
  go_wp2_with (at_builtin; refine app_dst rfl _ _ rfl eb _ r 31 ⟨bb, 1, none⟩ cur (((l) ++ [d0]) ++ [46]) R _ ?cs90 ?cx90 HM9.out HRl.out HO9.out.1 HLr.out (HDR.out _ HO9.out.2) ?_)
  case cs90 => rfl
  case cx90 => rfl
  intro w90 hd90 ht90
  have HO90 := Lib.hid (show Dst eb cur ((((l) ++ [d0]) ++ [46]) ++ R) w90 ∧ Touch [eb] w w90 from ⟨by first | exact hd90 | simpa using hd90, HO9.out.2.trans ht90⟩)
  have HM90 := Lib.hid (show _ + r = ((((l) ++ [d0]) ++ [46]) ++ R).length from by rw [List.length_append, ← HM9.out, ← HRl.out])
  clear hd90 ht90 HO9 HM9
  go_wp2
  go_loopw [0, 114] (fun ds ix wr => ∃ (n : Nat), ix = .int .i64 0 ∧ ds = .slice (some ⟨eb, 1, none⟩) n 64 ∧ Hid (n = ((((l) ++ [d0]) ++ [46]) ++ R).length) ∧ Hid (Dst eb cur ((((l) ++ [d0]) ++ [46]) ++ R) wr ∧ Touch [eb] w wr)) (fun _ _ _ => 0)
  case atStart => exact ⟨_, rfl, rfl, HM90, HO90⟩
  case round =>
    obtain ⟨n, rfl, rfl, HM95, HO96⟩ := hrel
    clear HO90 HM90
    go_wp2_with (at_builtin; refine app_new rfl _ _ rfl eb _ _ _ cur _ _ ((((l) ++ [d0]) ++ [46]) ++ R) [101] _ rfl ?cb10 rfl rfl ?cn10 rfl ?cd10 ?cr10 ?_)
    case cb10 => first | rfl | simp
    case cn10 => first | exact HM95.out | simpa using HM95.out
    case cd10 => first | exact HO96.out.1 | simpa using HO96.out.1
    case cr10 => have := HLim.out; have := HTd.out; (try simp at this ⊢) <;> omega
    intro w10 hd10 ht10
    have HO10 := Lib.hid (show Dst eb cur (((((l) ++ [d0]) ++ [46]) ++ R) ++ [101]) w10 ∧ Touch [eb] w w10 from ⟨by first | exact hd10 | simpa using hd10, HO96.out.2.trans ht10⟩)
    have HM10 := Lib.hid (show _ + 1 = (((((l) ++ [d0]) ++ [46]) ++ R) ++ [101]).length from by rw [List.length_append, ← HM95.out]; rfl)
    clear hd10 ht10 HO96 HM95
    go_wp2_with (at_builtin; refine app_new rfl _ _ rfl eb _ _ _ cur _ _ (((((l) ++ [d0]) ++ [46]) ++ R) ++ [101]) [45] _ rfl ?cb11 rfl rfl ?cn11 rfl ?cd11 ?cr11 ?_)
    case cb11 => first | rfl | simp
    case cn11 => first | exact HM10.out | simpa using HM10.out
    case cd11 => first | exact HO10.out.1 | simpa using HO10.out.1
    case cr11 => have := HLim.out; have := HTd.out; (try simp at this ⊢) <;> omega
    intro w11 hd11 ht11
    have HO11 := Lib.hid (show Dst eb cur ((((((l) ++ [d0]) ++ [46]) ++ R) ++ [101]) ++ [45]) w11 ∧ Touch [eb] w w11 from ⟨by first | exact hd11 | simpa using hd11, HO10.out.2.trans ht11⟩)
    have HM11 := Lib.hid (show _ + 1 = ((((((l) ++ [d0]) ++ [46]) ++ R) ++ [101]) ++ [45]).length from by rw [List.length_append, ← HM10.out]; rfl)
    clear hd11 ht11 HO10 HM10
    by_cases h10 : x < 10
    · have hi10 : (x : Int) < 10 := by omega
      obtain ⟨y0, hy0⟩ : ∃ y, y = UInt8.ofNat (48 + x) := ⟨_, rfl⟩
      have hv0 : (x : Int) + 48 = (y0.toNat : Int) := by rw [hy0, dig8 _ (by omega)]; omega
      have HV := Lib.hid (show l ++ fmE false D dp = ((((((l) ++ [d0]) ++ [46]) ++ R) ++ [101]) ++ [45]) ++ [48, y0] from by
        have hE := HE.out
        rw [HF.out, HX.out, hE]
        have e1 : (-(x : Int)).natAbs = x := by omega
        unfold exT
        rw [e1, if_pos (by omega), if_pos h10, ← hy0]
        simp [sgn])
      clear hy0
      go_wp2_with (at_builtin; refine app_new rfl _ _ rfl eb _ _ _ cur _ _ ((((((l) ++ [d0]) ++ [46]) ++ R) ++ [101]) ++ [45]) [48, y0] _ rfl ?cb12 rfl rfl ?cn12 rfl ?cd12 ?cr12 ?_)
      case cb12 => simp
      case cn12 => first | exact HM11.out | simpa using HM11.out
      case cd12 => first | exact HO11.out.1 | simpa using HO11.out.1
      case cr12 => have := HLim.out; have := HTd.out; (try simp at this ⊢) <;> omega
      intro w12 hd12 ht12
      have HO12 := Lib.hid (show Dst eb cur (((((((l) ++ [d0]) ++ [46]) ++ R) ++ [101]) ++ [45]) ++ [48, y0]) w12 ∧ Touch [eb] w w12 from ⟨by first | exact hd12 | simpa using hd12, HO11.out.2.trans ht12⟩)
      have HM12 := Lib.hid (show _ + 2 = (((((((l) ++ [d0]) ++ [46]) ++ R) ++ [101]) ++ [45]) ++ [48, y0]).length from by rw [List.length_append, ← HM11.out]; rfl)
      clear hd12 ht12 HO11 HM11
      go_wp2
      go_ret
      exact ⟨by rw [HV.out, ← HM12.out]; rfl, by rw [HV.out]; exact HO12.out⟩
    by_cases h100 : x < 100
    · have hi10 : ¬ ((x : Int) < 10) := by omega
      have hi100 : (x : Int) < 100 := by omega
      obtain ⟨y0, hy0⟩ : ∃ y, y = UInt8.ofNat (48 + x / 10) := ⟨_, rfl⟩
      have hv0 : (x : Int) / 10 + 48 = (y0.toNat : Int) := by rw [hy0, dig8 _ (by omega)]; omega
      obtain ⟨y1, hy1⟩ : ∃ y, y = UInt8.ofNat (48 + x % 10) := ⟨_, rfl⟩
      have hv1 : (x : Int) % 10 + 48 = (y1.toNat : Int) := by rw [hy1, dig8 _ (by omega)]; omega
      have HV := Lib.hid (show l ++ fmE false D dp = ((((((l) ++ [d0]) ++ [46]) ++ R) ++ [101]) ++ [45]) ++ [y0, y1] from by
        have hE := HE.out
        rw [HF.out, HX.out, hE]
        have e1 : (-(x : Int)).natAbs = x := by omega
        unfold exT
        rw [e1, if_pos (by omega), if_neg h10, if_pos h100, ← hy0, ← hy1]
        simp [sgn])
      clear hy0 hy1
      go_wp2_with (at_builtin; refine app_new rfl _ _ rfl eb _ _ _ cur _ _ ((((((l) ++ [d0]) ++ [46]) ++ R) ++ [101]) ++ [45]) [y0, y1] _ rfl ?cb13 rfl rfl ?cn13 rfl ?cd13 ?cr13 ?_)
      case cb13 => simp
      case cn13 => first | exact HM11.out | simpa using HM11.out
      case cd13 => first | exact HO11.out.1 | simpa using HO11.out.1
      case cr13 => have := HLim.out; have := HTd.out; (try simp at this ⊢) <;> omega
      intro w13 hd13 ht13
      have HO13 := Lib.hid (show Dst eb cur (((((((l) ++ [d0]) ++ [46]) ++ R) ++ [101]) ++ [45]) ++ [y0, y1]) w13 ∧ Touch [eb] w w13 from ⟨by first | exact hd13 | simpa using hd13, HO11.out.2.trans ht13⟩)
      have HM13 := Lib.hid (show _ + 2 = (((((((l) ++ [d0]) ++ [46]) ++ R) ++ [101]) ++ [45]) ++ [y0, y1]).length from by rw [List.length_append, ← HM11.out]; rfl)
      clear hd13 ht13 HO11 HM11
      go_wp2
      go_ret
      exact ⟨by rw [HV.out, ← HM13.out]; rfl, by rw [HV.out]; exact HO13.out⟩
    · have hi10 : ¬ ((x : Int) < 10) := by omega
      have hi100 : ¬ ((x : Int) < 100) := by omega
      obtain ⟨y0, hy0⟩ : ∃ y, y = UInt8.ofNat (48 + x / 100) := ⟨_, rfl⟩
      have hv0 : (x : Int) / 100 + 48 = (y0.toNat : Int) := by rw [hy0, dig8 _ (by omega)]; omega
      obtain ⟨y1, hy1⟩ : ∃ y, y = UInt8.ofNat (48 + x / 10 % 10) := ⟨_, rfl⟩
      have hv1 : (x : Int) / 10 % 10 + 48 = (y1.toNat : Int) := by rw [hy1, dig8 _ (by omega)]; omega
      obtain ⟨y2, hy2⟩ : ∃ y, y = UInt8.ofNat (48 + x % 10) := ⟨_, rfl⟩
      have hv2 : (x : Int) % 10 + 48 = (y2.toNat : Int) := by rw [hy2, dig8 _ (by omega)]; omega
      have HV := Lib.hid (show l ++ fmE false D dp = ((((((l) ++ [d0]) ++ [46]) ++ R) ++ [101]) ++ [45]) ++ [y0, y1, y2] from by
        have hE := HE.out
        rw [HF.out, HX.out, hE]
        have e1 : (-(x : Int)).natAbs = x := by omega
        unfold exT
        rw [e1, if_pos (by omega), if_neg h10, if_neg h100, ← hy0, ← hy1, ← hy2]
        simp [sgn])
      clear hy0 hy1 hy2
      go_wp2_with (at_builtin; refine app_new rfl _ _ rfl eb _ _ _ cur _ _ ((((((l) ++ [d0]) ++ [46]) ++ R) ++ [101]) ++ [45]) [y0, y1, y2] _ rfl ?cb14 rfl rfl ?cn14 rfl ?cd14 ?cr14 ?_)
      case cb14 => simp
      case cn14 => first | exact HM11.out | simpa using HM11.out
      case cd14 => first | exact HO11.out.1 | simpa using HO11.out.1
      case cr14 => have := HLim.out; have := HTd.out; (try simp at this ⊢) <;> omega
      intro w14 hd14 ht14
      have HO14 := Lib.hid (show Dst eb cur (((((((l) ++ [d0]) ++ [46]) ++ R) ++ [101]) ++ [45]) ++ [y0, y1, y2]) w14 ∧ Touch [eb] w w14 from ⟨by first | exact hd14 | simpa using hd14, HO11.out.2.trans ht14⟩)
      have HM14 := Lib.hid (show _ + 3 = (((((((l) ++ [d0]) ++ [46]) ++ R) ++ [101]) ++ [45]) ++ [y0, y1, y2]).length from by rw [List.length_append, ← HM11.out]; rfl)
      clear hd14 ht14 HO11 HM11
      go_wp2
      go_ret
      exact ⟨by rw [HV.out, ← HM14.out]; rfl, by rw [HV.out]; exact HO14.out⟩
set_option maxRecDepth 100000 in
set_option maxHeartbeats 6400000 in
theorem fmE_false_1 (eb bb nd x n0 : Nat) (dp : Int) (cur : Array Value) (l D : List UInt8) (w : World) (hd : Dst eb cur l w) (hD : Digs32 bb D w) (hne : bb ≠ eb) (h1 : nd = 1) (hE : dp - 1 = (x : Int)) (hx : x < 400) (hnd : nd ≤ 20) (hn : D.length = nd) (hn0 : n0 = l.length) (hlim : l.length + nd + 8 ≤ 64) :
    Calls Tryz.prog 128 #[.slice (some ⟨eb, 1, none⟩) n0 64, .bool false, .slice (some ⟨bb, 0, none⟩) 32 32, .int .i64 dp, .int .i64 (nd : Int), .int .i64 ((nd : Int) - 1), .int .u8 101, .bool true] w (FmtPost eb cur (l ++ fmE false D dp) w) := by
  subst h1
  obtain ⟨d0, hd0⟩ : ∃ d, d = D[0]'(by omega) := ⟨_, rfl⟩
  have hc0 := digs_at hD (Touch.refl [eb] w) hne 0 (by omega)
  rw [← hd0] at hc0
  obtain ⟨R, hR⟩ : ∃ R, R = D.drop 1 := ⟨_, rfl⟩
  have HTd := Lib.hid (show R.length + 1 = 1 from by rw [hR, List.length_drop]; omega)
  obtain ⟨X, hX⟩ : ∃ X, X = exT (dp - 1) := ⟨_, rfl⟩
  have HF := Lib.hid (show fmE false D dp = sgn false ++ [d0] ++ [] ++ [101] ++ X from by
    unfold fmE
    rw [if_neg (by omega), ← hX, hd0]
    congr 4
    cases D with
    | nil => simp at hn
    | cons a b => rfl)
  have HLim := Lib.hid hlim
  have HO := Lib.hid (show Dst eb cur l w ∧ Touch [eb] w w from ⟨hd, Touch.refl _ _⟩)
  have HN := Lib.hid hn0
  have HE := Lib.hid hE
  have HX := Lib.hid hX
  clear hd hD hn hn0 hR hd0 hX hlim
  go_enter Tryz.func128, Tryz.ntmps128
  go_wp2_with (at_builtin; refine app_new rfl _ _ rfl eb _ _ _ cur _ _ (l) [d0] _ rfl ?cb15 rfl rfl ?cn15 rfl ?cd15 ?cr15 ?_)
  case cb15 => rfl
  case cn15 => first | exact HN.out | simpa using HN.out
  case cd15 => first | exact HO.out.1 | simpa using HO.out.1
  case cr15 => have := HLim.out; have := HTd.out; (try simp at this ⊢) <;> omega
  intro w15 hd15 ht15
  have HO15 := Lib.hid (show Dst eb cur ((l) ++ [d0]) w15 ∧ Touch [eb] w w15 from ⟨by first | exact hd15 | simpa using hd15, HO.out.2.trans ht15⟩)
  have HM15 := Lib.hid (show _ + 1 = ((l) ++ [d0]).length from by rw [List.length_append, ← HN.out]; rfl)
  clear hd15 ht15 HO HN
  go_wp2_with (at_builtin; refine app_new rfl _ _ rfl eb _ _ _ cur _ _ ((l) ++ [d0]) [101] _ rfl ?cb16 rfl rfl ?cn16 rfl ?cd16 ?cr16 ?_)
  case cb16 => first | rfl | simp
  case cn16 => first | exact HM15.out | simpa using HM15.out
  case cd16 => first | exact HO15.out.1 | simpa using HO15.out.1
  case cr16 => have := HLim.out; have := HTd.out; (try simp at this ⊢) <;> omega
  intro w16 hd16 ht16
  have HO16 := Lib.hid (show Dst eb cur (((l) ++ [d0]) ++ [101]) w16 ∧ Touch [eb] w w16 from ⟨by first | exact hd16 | simpa using hd16, HO15.out.2.trans ht16⟩)
  have HM16 := Lib.hid (show _ + 1 = (((l) ++ [d0]) ++ [101]).length from by rw [List.length_append, ← HM15.out]; rfl)
  clear hd16 ht16 HO15 HM15
  go_wp2_with (at_builtin; refine app_new rfl _ _ rfl eb _ _ _ cur _ _ (((l) ++ [d0]) ++ [101]) [43] _ rfl ?cb17 rfl rfl ?cn17 rfl ?cd17 ?cr17 ?_)
  case cb17 => first | rfl | simp
  case cn17 => first | exact HM16.out | simpa using HM16.out
  case cd17 => first | exact HO16.out.1 | simpa using HO16.out.1
  case cr17 => have := HLim.out; have := HTd.out; (try simp at this ⊢) <;> omega
  intro w17 hd17 ht17
  have HO17 := Lib.hid (show Dst eb cur ((((l) ++ [d0]) ++ [101]) ++ [43]) w17 ∧ Touch [eb] w w17 from ⟨by first | exact hd17 | simpa using hd17, HO16.out.2.trans ht17⟩)
  have HM17 := Lib.hid (show _ + 1 = ((((l) ++ [d0]) ++ [101]) ++ [43]).length from by rw [List.length_append, ← HM16.out]; rfl)
  clear hd17 ht17 HO16 HM16
  by_cases h10 : x < 10
  · have hi10 : (x : Int) < 10 := by omega
    obtain ⟨y0, hy0⟩ : ∃ y, y = UInt8.ofNat (48 + x) := ⟨_, rfl⟩
    have hv0 : (x : Int) + 48 = (y0.toNat : Int) := by rw [hy0, dig8 _ (by omega)]; omega
    have HV := Lib.hid (show l ++ fmE false D dp = ((((l) ++ [d0]) ++ [101]) ++ [43]) ++ [48, y0] from by
      have hE := HE.out
      rw [HF.out, HX.out, hE]
      have e1 : ((x : Int)).natAbs = x := by omega
      unfold exT
      rw [e1, if_neg (by omega), if_pos h10, ← hy0]
      simp [sgn])
    clear hy0
    go_wp2_with (at_builtin; refine app_new rfl _ _ rfl eb _ _ _ cur _ _ ((((l) ++ [d0]) ++ [101]) ++ [43]) [48, y0] _ rfl ?cb18 rfl rfl ?cn18 rfl ?cd18 ?cr18 ?_)
    case cb18 => simp
    case cn18 => first | exact HM17.out | simpa using HM17.out
    case cd18 => first | exact HO17.out.1 | simpa using HO17.out.1
    case cr18 => have := HLim.out; have := HTd.out; (try simp at this ⊢) <;> omega
    intro w18 hd18 ht18
    have HO18 := Lib.hid (show Dst eb cur (((((l) ++ [d0]) ++ [101]) ++ [43]) ++ [48, y0]) w18 ∧ Touch [eb] w w18 from ⟨by first | exact hd18 | simpa using hd18, HO17.out.2.trans ht18⟩)
    have HM18 := Lib.hid (show _ + 2 = (((((l) ++ [d0]) ++ [101]) ++ [43]) ++ [48, y0]).length from by rw [List.length_append, ← HM17.out]; rfl)
    clear hd18 ht18 HO17 HM17
    go_wp2
    go_ret
    exact ⟨by rw [HV.out, ← HM18.out]; rfl, by rw [HV.out]; exact HO18.out⟩
  by_cases h100 : x < 100
  · have hi10 : ¬ ((x : Int) < 10) := by omega
    have hi100 : (x : Int) < 100 := by omega
    obtain ⟨y0, hy0⟩ : ∃ y, y = UInt8.ofNat (48 + x / 10) := ⟨_, rfl⟩
    have hv0 : (x : Int) / 10 + 48 = (y0.toNat : Int) := by rw [hy0, dig8 _ (by omega)]; omega
    obtain ⟨y1, hy1⟩ : ∃ y, y = UInt8.ofNat (48 + x % 10) := ⟨_, rfl⟩
    have hv1 : (x : Int) % 10 + 48 = (y1.toNat : Int) := by rw [hy1, dig8 _ (by omega)]; omega
    have HV := Lib.hid (show l ++ fmE false D dp = ((((l) ++ [d0]) ++ [101]) ++ [43]) ++ [y0, y1] from by
      have hE := HE.out
      rw [HF.out, HX.out, hE]
      have e1 : ((x : Int)).natAbs = x := by omega
      unfold exT
      rw [e1, if_neg (by omega), if_neg h10, if_pos h100, ← hy0, ← hy1]
      simp [sgn])
    clear hy0 hy1
    go_wp2_with (at_builtin; refine app_new rfl _ _ rfl eb _ _ _ cur _ _ ((((l) ++ [d0]) ++ [101]) ++ [43]) [y0, y1] _ rfl ?cb19 rfl rfl ?cn19 rfl ?cd19 ?cr19 ?_)
    case cb19 => simp
    case cn19 => first | exact HM17.out | simpa using HM17.out
    case cd19 => first | exact HO17.out.1 | simpa using HO17.out.1
    case cr19 => have := HLim.out; have := HTd.out; (try simp at this ⊢) <;> omega
    intro w19 hd19 ht19
    have HO19 := Lib.hid (show Dst eb cur (((((l) ++ [d0]) ++ [101]) ++ [43]) ++ [y0, y1]) w19 ∧ Touch [eb] w w19 from ⟨by first | exact hd19 | simpa using hd19, HO17.out.2.trans ht19⟩)
    have HM19 := Lib.hid (show _ + 2 = (((((l) ++ [d0]) ++ [101]) ++ [43]) ++ [y0, y1]).length from by rw [List.length_append, ← HM17.out]; rfl)
    clear hd19 ht19 HO17 HM17
    go_wp2
    go_ret
    exact ⟨by rw [HV.out, ← HM19.out]; rfl, by rw [HV.out]; exact HO19.out⟩
  · have hi10 : ¬ ((x : Int) < 10) := by omega
    have hi100 : ¬ ((x : Int) < 100) := by omega
    obtain ⟨y0, hy0⟩ : ∃ y, y = UInt8.ofNat (48 + x / 100) := ⟨_, rfl⟩
    have hv0 : (x : Int) / 100 + 48 = (y0.toNat : Int) := by rw [hy0, dig8 _ (by omega)]; omega
    obtain ⟨y1, hy1⟩ : ∃ y, y = UInt8.ofNat (48 + x / 10 % 10) := ⟨_, rfl⟩
    have hv1 : (x : Int) / 10 % 10 + 48 = (y1.toNat : Int) := by rw [hy1, dig8 _ (by omega)]; omega
    obtain ⟨y2, hy2⟩ : ∃ y, y = UInt8.ofNat (48 + x % 10) := ⟨_, rfl⟩
    have hv2 : (x : Int) % 10 + 48 = (y2.toNat : Int) := by rw [hy2, dig8 _ (by omega)]; omega
    have HV := Lib.hid (show l ++ fmE false D dp = ((((l) ++ [d0]) ++ [101]) ++ [43]) ++ [y0, y1, y2] from by
      have hE := HE.out
      rw [HF.out, HX.out, hE]
      have e1 : ((x : Int)).natAbs = x := by omega
      unfold exT
      rw [e1, if_neg (by omega), if_neg h10, if_neg h100, ← hy0, ← hy1, ← hy2]
      simp [sgn])
    clear hy0 hy1 hy2
    go_wp2_with (at_builtin; refine app_new rfl _ _ rfl eb _ _ _ cur _ _ ((((l) ++ [d0]) ++ [101]) ++ [43]) [y0, y1, y2] _ rfl ?cb20 rfl rfl ?cn20 rfl ?cd20 ?cr20 ?_)
    case cb20 => simp
    case cn20 => first | exact HM17.out | simpa using HM17.out
    case cd20 => first | exact HO17.out.1 | simpa using HO17.out.1
    case cr20 => have := HLim.out; have := HTd.out; (try simp at this ⊢) <;> omega
    intro w20 hd20 ht20
    have HO20 := Lib.hid (show Dst eb cur (((((l) ++ [d0]) ++ [101]) ++ [43]) ++ [y0, y1, y2]) w20 ∧ Touch [eb] w w20 from ⟨by first | exact hd20 | simpa using hd20, HO17.out.2.trans ht20⟩)
    have HM20 := Lib.hid (show _ + 3 = (((((l) ++ [d0]) ++ [101]) ++ [43]) ++ [y0, y1, y2]).length from by rw [List.length_append, ← HM17.out]; rfl)
    clear hd20 ht20 HO17 HM17
    go_wp2
    go_ret
    exact ⟨by rw [HV.out, ← HM20.out]; rfl, by rw [HV.out]; exact HO20.out⟩
set_option maxRecDepth 100000 in
set_option maxHeartbeats 6400000 in
theorem fmE_false_1_n (eb bb nd x n0 : Nat) (dp : Int) (cur : Array Value) (l D : List UInt8) (w : World) (hd : Dst eb cur l w) (hD : Digs32 bb D w) (hne : bb ≠ eb) (h1 : nd = 1) (hE : dp - 1 = -(x : Int)) (hx1 : 0 < x) (hx : x < 400) (hnd : nd ≤ 20) (hn : D.length = nd) (hn0 : n0 = l.length) (hlim : l.length + nd + 8 ≤ 64) :
    Calls Tryz.prog 128 #[.slice (some ⟨eb, 1, none⟩) n0 64, .bool false, .slice (some ⟨bb, 0, none⟩) 32 32, .int .i64 dp, .int .i64 (nd : Int), .int .i64 ((nd : Int) - 1), .int .u8 101, .bool true] w (FmtPost eb cur (l ++ fmE false D dp) w) := by
  subst h1
  obtain ⟨d0, hd0⟩ : ∃ d, d = D[0]'(by omega) := ⟨_, rfl⟩
  have hc0 := digs_at hD (Touch.refl [eb] w) hne 0 (by omega)
  rw [← hd0] at hc0
  obtain ⟨R, hR⟩ : ∃ R, R = D.drop 1 := ⟨_, rfl⟩
  have HTd := Lib.hid (show R.length + 1 = 1 from by rw [hR, List.length_drop]; omega)
  obtain ⟨X, hX⟩ : ∃ X, X = exT (dp - 1) := ⟨_, rfl⟩
  have HF := Lib.hid (show fmE false D dp = sgn false ++ [d0] ++ [] ++ [101] ++ X from by
    unfold fmE
    rw [if_neg (by omega), ← hX, hd0]
    congr 4
    cases D with
    | nil => simp at hn
    | cons a b => rfl)
  have HLim := Lib.hid hlim
  have HO := Lib.hid (show Dst eb cur l w ∧ Touch [eb] w w from ⟨hd, Touch.refl _ _⟩)
  have HN := Lib.hid hn0
  have HE := Lib.hid hE
  have HX := Lib.hid hX
  clear hd hD hn hn0 hR hd0 hX hlim
  obtain ⟨E, hE2⟩ : ∃ E, E = dp - 1 := ⟨_, rfl⟩
  have hE3 : dp - 1 = E := hE2.symm
  have hE4 : E < 0 := by omega
  have hE5 : -E = (x : Int) := by omega
  clear hE2 hE
  go_enter Tryz.func128, Tryz.ntmps128
  go_wp2_with (at_builtin; refine app_new rfl _ _ rfl eb _ _ _ cur _ _ (l) [d0] _ rfl ?cb21 rfl rfl ?cn21 rfl ?cd21 ?cr21 ?_)
  case cb21 => rfl
  case cn21 => first | exact HN.out | simpa using HN.out
  case cd21 => first | exact HO.out.1 | simpa using HO.out.1
  case cr21 => have := HLim.out; have := HTd.out; (try simp at this ⊢) <;> omega
  intro w21 hd21 ht21
  have HO21 := Lib.hid (show Dst eb cur ((l) ++ [d0]) w21 ∧ Touch [eb] w w21 from ⟨by first | exact hd21 | simpa using hd21, HO.out.2.trans ht21⟩)
  have HM21 := Lib.hid (show _ + 1 = ((l) ++ [d0]).length from by rw [List.length_append, ← HN.out]; rfl)
  clear hd21 ht21 HO HN
  go_wp2_with (at_builtin; refine app_new rfl _ _ rfl eb _ _ _ cur _ _ ((l) ++ [d0]) [101] _ rfl ?cb22 rfl rfl ?cn22 rfl ?cd22 ?cr22 ?_)
  case cb22 => first | rfl | simp
  case cn22 => first | exact HM21.out | simpa using HM21.out
  case cd22 => first | exact HO21.out.1 | simpa using HO21.out.1
  case cr22 => have := HLim.out; have := HTd.out; (try simp at this ⊢) <;> omega
  intro w22 hd22 ht22
  have HO22 := Lib.hid (show Dst eb cur (((l) ++ [d0]) ++ [101]) w22 ∧ Touch [eb] w w22 from ⟨by first | exact hd22 | simpa using hd22, HO21.out.2.trans ht22⟩)
  have HM22 := Lib.hid (show _ + 1 = (((l) ++ [d0]) ++ [101]).length from by rw [List.length_append, ← HM21.out]; rfl)
  clear hd22 ht22 HO21 HM21
  go_wp2_with (at_builtin; refine app_new rfl _ _ rfl eb _ _ _ cur _ _ (((l) ++ [d0]) ++ [101]) [45] _ rfl ?cb23 rfl rfl ?cn23 rfl ?cd23 ?cr23 ?_)
  case cb23 => first | rfl | simp
  case cn23 => first | exact HM22.out | simpa using HM22.out
  case cd23 => first | exact HO22.out.1 | simpa using HO22.out.1
  case cr23 => have := HLim.out; have := HTd.out; (try simp at this ⊢) <;> omega
  intro w23 hd23 ht23
  have HO23 := Lib.hid (show Dst eb cur ((((l) ++ [d0]) ++ [101]) ++ [45]) w23 ∧ Touch [eb] w w23 from ⟨by first | exact hd23 | simpa using hd23, HO22.out.2.trans ht23⟩)
  have HM23 := Lib.hid (show _ + 1 = ((((l) ++ [d0]) ++ [101]) ++ [45]).length from by rw [List.length_append, ← HM22.out]; rfl)
  clear hd23 ht23 HO22 HM22
  by_cases h10 : x < 10
  · have hi10 : (x : Int) < 10 := by omega
    obtain ⟨y0, hy0⟩ : ∃ y, y = UInt8.ofNat (48 + x) := ⟨_, rfl⟩
    have hv0 : (x : Int) + 48 = (y0.toNat : Int) := by rw [hy0, dig8 _ (by omega)]; omega
    have HV := Lib.hid (show l ++ fmE false D dp = ((((l) ++ [d0]) ++ [101]) ++ [45]) ++ [48, y0] from by
      have hE := HE.out
      rw [HF.out, HX.out, hE]
      have e1 : (-(x : Int)).natAbs = x := by omega
      unfold exT
      rw [e1, if_pos (by omega), if_pos h10, ← hy0]
      simp [sgn])
    clear hy0
    go_wp2_with (at_builtin; refine app_new rfl _ _ rfl eb _ _ _ cur _ _ ((((l) ++ [d0]) ++ [101]) ++ [45]) [48, y0] _ rfl ?cb24 rfl rfl ?cn24 rfl ?cd24 ?cr24 ?_)
    case cb24 => simp
    case cn24 => first | exact HM23.out | simpa using HM23.out
    case cd24 => first | exact HO23.out.1 | simpa using HO23.out.1
    case cr24 => have := HLim.out; have := HTd.out; (try simp at this ⊢) <;> omega
    intro w24 hd24 ht24
    have HO24 := Lib.hid (show Dst eb cur (((((l) ++ [d0]) ++ [101]) ++ [45]) ++ [48, y0]) w24 ∧ Touch [eb] w w24 from ⟨by first | exact hd24 | simpa using hd24, HO23.out.2.trans ht24⟩)
    have HM24 := Lib.hid (show _ + 2 = (((((l) ++ [d0]) ++ [101]) ++ [45]) ++ [48, y0]).length from by rw [List.length_append, ← HM23.out]; rfl)
    clear hd24 ht24 HO23 HM23
    go_wp2
    go_ret
    exact ⟨by rw [HV.out, ← HM24.out]; rfl, by rw [HV.out]; exact HO24.out⟩
  by_cases h100 : x < 100
  · have hi10 : ¬ ((x : Int) < 10) := by omega
    have hi100 : (x : Int) < 100 := by omega
    obtain ⟨y0, hy0⟩ : ∃ y, y = UInt8.ofNat (48 + x / 10) := ⟨_, rfl⟩
    have hv0 : (x : Int) / 10 + 48 = (y0.toNat : Int) := by rw [hy0, dig8 _ (by omega)]; omega
    obtain ⟨y1, hy1⟩ : ∃ y, y = UInt8.ofNat (48 + x % 10) := ⟨_, rfl⟩
    have hv1 : (x : Int) % 10 + 48 = (y1.toNat : Int) := by rw [hy1, dig8 _ (by omega)]; omega
    have HV := Lib.hid (show l ++ fmE false D dp = ((((l) ++ [d0]) ++ [101]) ++ [45]) ++ [y0, y1] from by
      have hE := HE.out
      rw [HF.out, HX.out, hE]
      have e1 : (-(x : Int)).natAbs = x := by omega
      unfold exT
      rw [e1, if_pos (by omega), if_neg h10, if_pos h100, ← hy0, ← hy1]
      simp [sgn])
    clear hy0 hy1
    go_wp2_with (at_builtin; refine app_new rfl _ _ rfl eb _ _ _ cur _ _ ((((l) ++ [d0]) ++ [101]) ++ [45]) [y0, y1] _ rfl ?cb25 rfl rfl ?cn25 rfl ?cd25 ?cr25 ?_)
    case cb25 => simp
    case cn25 => first | exact HM23.out | simpa using HM23.out
    case cd25 => first | exact HO23.out.1 | simpa using HO23.out.1
    case cr25 => have := HLim.out; have := HTd.out; (try simp at this ⊢) <;> omega
    intro w25 hd25 ht25
    have HO25 := Lib.hid (show Dst eb cur (((((l) ++ [d0]) ++ [101]) ++ [45]) ++ [y0, y1]) w25 ∧ Touch [eb] w w25 from ⟨by first | exact hd25 | simpa using hd25, HO23.out.2.trans ht25⟩)
    have HM25 := Lib.hid (show _ + 2 = (((((l) ++ [d0]) ++ [101]) ++ [45]) ++ [y0, y1]).length from by rw [List.length_append, ← HM23.out]; rfl)
    clear hd25 ht25 HO23 HM23
    go_wp2
    go_ret
    exact ⟨by rw [HV.out, ← HM25.out]; rfl, by rw [HV.out]; exact HO25.out⟩
  · have hi10 : ¬ ((x : Int) < 10) := by omega
    have hi100 : ¬ ((x : Int) < 100) := by omega
    obtain ⟨y0, hy0⟩ : ∃ y, y = UInt8.ofNat (48 + x / 100) := ⟨_, rfl⟩
    have hv0 : (x : Int) / 100 + 48 = (y0.toNat : Int) := by rw [hy0, dig8 _ (by omega)]; omega
    obtain ⟨y1, hy1⟩ : ∃ y, y = UInt8.ofNat (48 + x / 10 % 10) := ⟨_, rfl⟩
    have hv1 : (x : Int) / 10 % 10 + 48 = (y1.toNat : Int) := by rw [hy1, dig8 _ (by omega)]; omega
    obtain ⟨y2, hy2⟩ : ∃ y, y = UInt8.ofNat (48 + x % 10) := ⟨_, rfl⟩
    have hv2 : (x : Int) % 10 + 48 = (y2.toNat : Int) := by rw [hy2, dig8 _ (by omega)]; omega
    have HV := Lib.hid (show l ++ fmE false D dp = ((((l) ++ [d0]) ++ [101]) ++ [45]) ++ [y0, y1, y2] from by
      have hE := HE.out
      rw [HF.out, HX.out, hE]
      have e1 : (-(x : Int)).natAbs = x := by omega
      unfold exT
      rw [e1, if_pos (by omega), if_neg h10, if_neg h100, ← hy0, ← hy1, ← hy2]
      simp [sgn])
    clear hy0 hy1 hy2
    go_wp2_with (at_builtin; refine app_new rfl _ _ rfl eb _ _ _ cur _ _ ((((l) ++ [d0]) ++ [101]) ++ [45]) [y0, y1, y2] _ rfl ?cb26 rfl rfl ?cn26 rfl ?cd26 ?cr26 ?_)
    case cb26 => simp
    case cn26 => first | exact HM23.out | simpa using HM23.out
    case cd26 => first | exact HO23.out.1 | simpa using HO23.out.1
    case cr26 => have := HLim.out; have := HTd.out; (try simp at this ⊢) <;> omega
    intro w26 hd26 ht26
    have HO26 := Lib.hid (show Dst eb cur (((((l) ++ [d0]) ++ [101]) ++ [45]) ++ [y0, y1, y2]) w26 ∧ Touch [eb] w w26 from ⟨by first | exact hd26 | simpa using hd26, HO23.out.2.trans ht26⟩)
    have HM26 := Lib.hid (show _ + 3 = (((((l) ++ [d0]) ++ [101]) ++ [45]) ++ [y0, y1, y2]).length from by rw [List.length_append, ← HM23.out]; rfl)
    clear hd26 ht26 HO23 HM23
    go_wp2
    go_ret
    exact ⟨by rw [HV.out, ← HM26.out]; rfl, by rw [HV.out]; exact HO26.out⟩
set_option maxRecDepth 100000 in
set_option maxHeartbeats 6400000 in
theorem fmE_true (eb bb nd x n0 : Nat) (dp : Int) (cur : Array Value) (l D : List UInt8) (w : World) (hd : Dst eb cur l w) (hD : Digs32 bb D w) (hne : bb ≠ eb) (h1 : 1 < nd) (hE : dp - 1 = (x : Int)) (hx : x < 400) (hnd : nd ≤ 20) (hn : D.length = nd) (hn0 : n0 = l.length) (hlim : l.length + nd + 8 ≤ 64) :
    Calls Tryz.prog 128 #[.slice (some ⟨eb, 1, none⟩) n0 64, .bool true, .slice (some ⟨bb, 0, none⟩) 32 32, .int .i64 dp, .int .i64 (nd : Int), .int .i64 ((nd : Int) - 1), .int .u8 101, .bool true] w (FmtPost eb cur (l ++ fmE true D dp) w) := by
  obtain ⟨d0, hd0⟩ : ∃ d, d = D[0]'(by omega) := ⟨_, rfl⟩
  have hc0 := digs_at hD (Touch.refl [eb] w) hne 0 (by omega)
  rw [← hd0] at hc0
  obtain ⟨R, hR⟩ : ∃ R, R = D.drop 1 := ⟨_, rfl⟩
  have HTd := Lib.hid (show R.length + 1 = nd from by rw [hR, List.length_drop]; omega)
  obtain ⟨X, hX⟩ : ∃ X, X = exT (dp - 1) := ⟨_, rfl⟩
  have HF := Lib.hid (show fmE true D dp = sgn true ++ [d0] ++ (46 :: R) ++ [101] ++ X from by
    unfold fmE
    rw [if_pos (by omega), ← hX, ← hR, hd0]
    congr 4
    cases D with
    | nil => simp at hn; omega
    | cons a b => rfl)
  have HLim := Lib.hid hlim
  have HO := Lib.hid (show Dst eb cur l w ∧ Touch [eb] w w from ⟨hd, Touch.refl _ _⟩)
  have HN := Lib.hid hn0
  have hnz : ((nd : Int) != 0) = true := by rw [bne_iff_ne]; omega
  have hp0 : (0 : Int) < (nd : Int) - 1 := by omega
  have hm1 : (nd : Int) - 1 + 1 = (nd : Int) := by omega
  have hm2 : min (nd : Int) (nd : Int) = (nd : Int) := by omega
  have h1i : (1 : Int) < (nd : Int) := by omega
  have nd20 : nd ≤ 20 := hnd
  obtain ⟨r, hr⟩ : ∃ r, nd = r + 1 := ⟨nd - 1, by omega⟩
  have HRl := Lib.hid (show r = R.length from by have := HTd.out; omega)
  have hsl : ∀ W, (Instr.slice 29 (.slice (some ⟨bb, 0, none⟩) 32 32) (some (.int .i64 1)) (some (.int .i64 (nd : Int))) none).run Tryz.prog W = .ok (.slice (some ⟨bb, 1, none⟩) r 31) W := run_slice1 bb nd r (by omega) hr
  have HDR := Lib.hid (show ∀ W, Touch [eb] w W → ∀ j u, (Lib.byteCells R)[j]? = some u → W.cell? ((⟨bb, 1, none⟩ : Addr).add j) = some u from fun W ht j u hj => by
    have hjl : j < R.length := by
      have := (List.getElem?_eq_some_iff.1 hj).1
      rwa [bc_len] at this
    have h2 : 1 + j < D.length := by rw [hR, List.length_drop] at hjl; omega
    rw [Lib.addr_add, digs_at hD ht hne (1 + j) h2, ← hj]
    simp only [Lib.byteCells, hR, List.getElem?_map, List.getElem?_drop]
    rw [List.getElem?_eq_getElem h2]
    rfl)
  clear hr
  have HE := Lib.hid hE
  have HX := Lib.hid hX
  clear hd hD hn hn0 hR hd0 hX hlim
  go_enter Tryz.func128, Tryz.ntmps128
  go_wp2_with (at_builtin; refine app_new rfl _ _ rfl eb _ _ _ cur _ _ (l) [45] _ rfl ?cb27 rfl rfl ?cn27 rfl ?cd27 ?cr27 ?_)
  case cb27 => first | rfl | simp
  case cn27 => first | exact HN.out | simpa using HN.out
  case cd27 => first | exact HO.out.1 | simpa using HO.out.1
  case cr27 => have := HLim.out; have := HTd.out; (try simp at this ⊢) <;> omega
  intro w27 hd27 ht27
  have HO27 := Lib.hid (show Dst eb cur ((l) ++ [45]) w27 ∧ Touch [eb] w w27 from ⟨by first | exact hd27 | simpa using hd27, HO.out.2.trans ht27⟩)
  have HM27 := Lib.hid (show _ + 1 = ((l) ++ [45]).length from by rw [List.length_append, ← HN.out]; rfl)
  clear hd27 ht27 HO HN
  have hc0' := cell_keep hc0 HO27.out.2 hne
  go_wp2_with (at_builtin; refine app_new rfl _ _ rfl eb _ _ _ cur _ _ ((l) ++ [45]) [d0] _ rfl ?cb28 rfl rfl ?cn28 rfl ?cd28 ?cr28 ?_)
  case cb28 => rfl
  case cn28 => first | exact HM27.out | simpa using HM27.out
  case cd28 => first | exact HO27.out.1 | simpa using HO27.out.1
  case cr28 => have := HLim.out; have := HTd.out; (try simp at this ⊢) <;> omega
  intro w28 hd28 ht28
  have HO28 := Lib.hid (show Dst eb cur (((l) ++ [45]) ++ [d0]) w28 ∧ Touch [eb] w w28 from ⟨by first | exact hd28 | simpa using hd28, HO27.out.2.trans ht28⟩)
  have HM28 := Lib.hid (show _ + 1 = (((l) ++ [45]) ++ [d0]).length from by rw [List.length_append, ← HM27.out]; rfl)
  clear hd28 ht28 HO27 HM27
  go_wp2_with (at_builtin; refine app_new rfl _ _ rfl eb _ _ _ cur _ _ (((l) ++ [45]) ++ [d0]) [46] _ rfl ?cb29 rfl rfl ?cn29 rfl ?cd29 ?cr29 ?_)
  case cb29 => first | rfl | simp
  case cn29 => first | exact HM28.out | simpa using HM28.out
  case cd29 => first | exact HO28.out.1 | simpa using HO28.out.1
  case cr29 => have := HLim.out; have := HTd.out; (try simp at this ⊢) <;> omega
  intro w29 hd29 ht29
  have HO29 := Lib.hid (show Dst eb cur ((((l) ++ [45]) ++ [d0]) ++ [46]) w29 ∧ Touch [eb] w w29 from ⟨by first | exact hd29 | simpa using hd29, HO28.out.2.trans ht29⟩)
  have HM29 := Lib.hid (show _ + 1 = ((((l) ++ [45]) ++ [d0]) ++ [46]).length from by rw [List.length_append, ← HM28.out]; rfl)
  clear hd29 ht29 HO28 HM28
  have HLr := Lib.hid (show ((((l) ++ [45]) ++ [d0]) ++ [46]).length + R.length ≤ 64 from by have := HLim.out; have := HTd.out; (try simp at this ⊢) <;> omega)
  go_wp2_with (at_builtin; refine app_dst rfl _ _ rfl eb _ r 31 ⟨bb, 1, none⟩ cur ((((l) ++ [45]) ++ [d0]) ++ [46]) R _ ?cs90 ?cx90 HM29.out HRl.out HO29.out.1 HLr.out (HDR.out _ HO29.out.2) ?_)
  case cs90 => rfl
  case cx90 => rfl
  intro w90 hd90 ht90
  have HO90 := Lib.hid (show Dst eb cur (((((l) ++ [45]) ++ [d0]) ++ [46]) ++ R) w90 ∧ Touch [eb] w w90 from ⟨by first | exact hd90 | simpa using hd90, HO29.out.2.trans ht90⟩)
  have HM90 := Lib.hid (show _ + r = (((((l) ++ [45]) ++ [d0]) ++ [46]) ++ R).length from by rw [List.length_append, ← HM29.out, ← HRl.out])
  clear hd90 ht90 HO29 HM29
  go_wp2
  go_loopw [0, 114] (fun ds ix wr => ∃ (n : Nat), ix = .int .i64 0 ∧ ds = .slice (some ⟨eb, 1, none⟩) n 64 ∧ Hid (n = (((((l) ++ [45]) ++ [d0]) ++ [46]) ++ R).length) ∧ Hid (Dst eb cur (((((l) ++ [45]) ++ [d0]) ++ [46]) ++ R) wr ∧ Touch [eb] w wr)) (fun _ _ _ => 0)
  case atStart => exact ⟨_, rfl, rfl, HM90, HO90⟩
  case round =>
    obtain ⟨n, rfl, rfl, HM95, HO96⟩ := hrel
    clear HO90 HM90
    go_wp2_with (at_builtin; refine app_new rfl _ _ rfl eb _ _ _ cur _ _ (((((l) ++ [45]) ++ [d0]) ++ [46]) ++ R) [101] _ rfl ?cb30 rfl rfl ?cn30 rfl ?cd30 ?cr30 ?_)
    case cb30 => first | rfl | simp
    case cn30 => first | exact HM95.out | simpa using HM95.out
    case cd30 => first | exact HO96.out.1 | simpa using HO96.out.1
    case cr30 => have := HLim.out; have := HTd.out; (try simp at this ⊢) <;> omega
    intro w30 hd30 ht30
    have HO30 := Lib.hid (show Dst eb cur ((((((l) ++ [45]) ++ [d0]) ++ [46]) ++ R) ++ [101]) w30 ∧ Touch [eb] w w30 from ⟨by first | exact hd30 | simpa using hd30, HO96.out.2.trans ht30⟩)
    have HM30 := Lib.hid (show _ + 1 = ((((((l) ++ [45]) ++ [d0]) ++ [46]) ++ R) ++ [101]).length from by rw [List.length_append, ← HM95.out]; rfl)
    clear hd30 ht30 HO96 HM95
    go_wp2_with (at_builtin; refine app_new rfl _ _ rfl eb _ _ _ cur _ _ ((((((l) ++ [45]) ++ [d0]) ++ [46]) ++ R) ++ [101]) [43] _ rfl ?cb31 rfl rfl ?cn31 rfl ?cd31 ?cr31 ?_)
    case cb31 => first | rfl | simp
    case cn31 => first | exact HM30.out | simpa using HM30.out
    case cd31 => first | exact HO30.out.1 | simpa using HO30.out.1
    case cr31 => have := HLim.out; have := HTd.out; (try simp at this ⊢) <;> omega
    intro w31 hd31 ht31
    have HO31 := Lib.hid (show Dst eb cur (((((((l) ++ [45]) ++ [d0]) ++ [46]) ++ R) ++ [101]) ++ [43]) w31 ∧ Touch [eb] w w31 from ⟨by first | exact hd31 | simpa using hd31, HO30.out.2.trans ht31⟩)
    have HM31 := Lib.hid (show _ + 1 = (((((((l) ++ [45]) ++ [d0]) ++ [46]) ++ R) ++ [101]) ++ [43]).length from by rw [List.length_append, ← HM30.out]; rfl)
    clear hd31 ht31 HO30 HM30
    by_cases h10 : x < 10
    · have hi10 : (x : Int) < 10 := by omega
      obtain ⟨y0, hy0⟩ : ∃ y, y = UInt8.ofNat (48 + x) := ⟨_, rfl⟩
      have hv0 : (x : Int) + 48 = (y0.toNat : Int) := by rw [hy0, dig8 _ (by omega)]; omega
      have HV := Lib.hid (show l ++ fmE true D dp = (((((((l) ++ [45]) ++ [d0]) ++ [46]) ++ R) ++ [101]) ++ [43]) ++ [48, y0] from by
        have hE := HE.out
        rw [HF.out, HX.out, hE]
        have e1 : ((x : Int)).natAbs = x := by omega
        unfold exT
        rw [e1, if_neg (by omega), if_pos h10, ← hy0]
        simp [sgn])
      clear hy0
      go_wp2_with (at_builtin; refine app_new rfl _ _ rfl eb _ _ _ cur _ _ (((((((l) ++ [45]) ++ [d0]) ++ [46]) ++ R) ++ [101]) ++ [43]) [48, y0] _ rfl ?cb32 rfl rfl ?cn32 rfl ?cd32 ?cr32 ?_)
      case cb32 => simp
      case cn32 => first | exact HM31.out | simpa using HM31.out
      case cd32 => first | exact HO31.out.1 | simpa using HO31.out.1
      case cr32 => have := HLim.out; have := HTd.out; (try simp at this ⊢) <;> omega
      intro w32 hd32 ht32
      have HO32 := Lib.hid (show Dst eb cur ((((((((l) ++ [45]) ++ [d0]) ++ [46]) ++ R) ++ [101]) ++ [43]) ++ [48, y0]) w32 ∧ Touch [eb] w w32 from ⟨by first | exact hd32 | simpa using hd32, HO31.out.2.trans ht32⟩)
      have HM32 := Lib.hid (show _ + 2 = ((((((((l) ++ [45]) ++ [d0]) ++ [46]) ++ R) ++ [101]) ++ [43]) ++ [48, y0]).length from by rw [List.length_append, ← HM31.out]; rfl)
      clear hd32 ht32 HO31 HM31
      go_wp2
      go_ret
      exact ⟨by rw [HV.out, ← HM32.out]; rfl, by rw [HV.out]; exact HO32.out⟩
    by_cases h100 : x < 100
    · have hi10 : ¬ ((x : Int) < 10) := by omega
      have hi100 : (x : Int) < 100 := by omega
      obtain ⟨y0, hy0⟩ : ∃ y, y = UInt8.ofNat (48 + x / 10) := ⟨_, rfl⟩
      have hv0 : (x : Int) / 10 + 48 = (y0.toNat : Int) := by rw [hy0, dig8 _ (by omega)]; omega
      obtain ⟨y1, hy1⟩ : ∃ y, y = UInt8.ofNat (48 + x % 10) := ⟨_, rfl⟩
      have hv1 : (x : Int) % 10 + 48 = (y1.toNat : Int) := by rw [hy1, dig8 _ (by omega)]; omega
      have HV := Lib.hid (show l ++ fmE true D dp = (((((((l) ++ [45]) ++ [d0]) ++ [46]) ++ R) ++ [101]) ++ [43]) ++ [y0, y1] from by
        have hE := HE.out
        rw [HF.out, HX.out, hE]
        have e1 : ((x : Int)).natAbs = x := by omega
        unfold exT
        rw [e1, if_neg (by omega), if_neg h10, if_pos h100, ← hy0, ← hy1]
        simp [sgn])
      clear hy0 hy1
      go_wp2_with (at_builtin; refine app_new rfl _ _ rfl eb _ _ _ cur _ _ (((((((l) ++ [45]) ++ [d0]) ++ [46]) ++ R) ++ [101]) ++ [43]) [y0, y1] _ rfl ?cb33 rfl rfl ?cn33 rfl ?cd33 ?cr33 ?_)
      case cb33 => simp
      case cn33 => first | exact HM31.out | simpa using HM31.out
      case cd33 => first | exact HO31.out.1 | simpa using HO31.out.1
      case cr33 => have := HLim.out; have := HTd.out; (try simp at this ⊢) <;> omega
      intro w33 hd33 ht33
      have HO33 := Lib.hid (show Dst eb cur ((((((((l) ++ [45]) ++ [d0]) ++ [46]) ++ R) ++ [101]) ++ [43]) ++ [y0, y1]) w33 ∧ Touch [eb] w w33 from ⟨by first | exact hd33 | simpa using hd33, HO31.out.2.trans ht33⟩)
      have HM33 := Lib.hid (show _ + 2 = ((((((((l) ++ [45]) ++ [d0]) ++ [46]) ++ R) ++ [101]) ++ [43]) ++ [y0, y1]).length from by rw [List.length_append, ← HM31.out]; rfl)
      clear hd33 ht33 HO31 HM31
      go_wp2
      go_ret
      exact ⟨by rw [HV.out, ← HM33.out]; rfl, by rw [HV.out]; exact HO33.out⟩
    · have hi10 : ¬ ((x : Int) < 10) := by omega
      have hi100 : ¬ ((x : Int) < 100) := by omega
      obtain ⟨y0, hy0⟩ : ∃ y, y = UInt8.ofNat (48 + x / 100) := ⟨_, rfl⟩
      have hv0 : (x : Int) / 100 + 48 = (y0.toNat : Int) := by rw [hy0, dig8 _ (by omega)]; omega
      obtain ⟨y1, hy1⟩ : ∃ y, y = UInt8.ofNat (48 + x / 10 % 10) := ⟨_, rfl⟩
      have hv1 : (x : Int) / 10 % 10 + 48 = (y1.toNat : Int) := by rw [hy1, dig8 _ (by omega)]; omega
      obtain ⟨y2, hy2⟩ : ∃ y, y = UInt8.ofNat (48 + x % 10) := ⟨_, rfl⟩
      have hv2 : (x : Int) % 10 + 48 = (y2.toNat : Int) := by rw [hy2, dig8 _ (by omega)]; omega
      have HV := Lib.hid (show l ++ fmE true D dp = (((((((l) ++ [45]) ++ [d0]) ++ [46]) ++ R) ++ [101]) ++ [43]) ++ [y0, y1, y2] from by
        have hE := HE.out
        rw [HF.out, HX.out, hE]
        have e1 : ((x : Int)).natAbs = x := by omega
        unfold exT
        rw [e1, if_neg (by omega), if_neg h10, if_neg h100, ← hy0, ← hy1, ← hy2]
        simp [sgn])
      clear hy0 hy1 hy2
      go_wp2_with (at_builtin; refine app_new rfl _ _ rfl eb _ _ _ cur _ _ (((((((l) ++ [45]) ++ [d0]) ++ [46]) ++ R) ++ [101]) ++ [43]) [y0, y1, y2] _ rfl ?cb34 rfl rfl ?cn34 rfl ?cd34 ?cr34 ?_)
      case cb34 => simp
      case cn34 => first | exact HM31.out | simpa using HM31.out
      case cd34 => first | exact HO31.out.1 | simpa using HO31.out.1
      case cr34 => have := HLim.out; have := HTd.out; (try simp at this ⊢) <;> omega
      intro w34 hd34 ht34
      have HO34 := Lib.hid (show Dst eb cur ((((((((l) ++ [45]) ++ [d0]) ++ [46]) ++ R) ++ [101]) ++ [43]) ++ [y0, y1, y2]) w34 ∧ Touch [eb] w w34 from ⟨by first | exact hd34 | simpa using hd34, HO31.out.2.trans ht34⟩)
      have HM34 := Lib.hid (show _ + 3 = ((((((((l) ++ [45]) ++ [d0]) ++ [46]) ++ R) ++ [101]) ++ [43]) ++ [y0, y1, y2]).length from by rw [List.length_append, ← HM31.out]; rfl)
      clear hd34 ht34 HO31 HM31
      go_wp2
      go_ret
      exact ⟨by rw [HV.out, ← HM34.out]; rfl, by rw [HV.out]; exact HO34.out⟩
set_option maxRecDepth 100000 in
set_option maxHeartbeats 6400000 in
theorem fmE_true_n (eb bb nd x n0 : Nat) (dp : Int) (cur : Array Value) (l D : List UInt8) (w : World) (hd : Dst eb cur l w) (hD : Digs32 bb D w) (hne : bb ≠ eb) (h1 : 1 < nd) (hE : dp - 1 = -(x : Int)) (hx1 : 0 < x) (hx : x < 400) (hnd : nd ≤ 20) (hn : D.length = nd) (hn0 : n0 = l.length) (hlim : l.length + nd + 8 ≤ 64) :
    Calls Tryz.prog 128 #[.slice (some ⟨eb, 1, none⟩) n0 64, .bool true, .slice (some ⟨bb, 0, none⟩) 32 32, .int .i64 dp, .int .i64 (nd : Int), .int .i64 ((nd : Int) - 1), .int .u8 101, .bool true] w (FmtPost eb cur (l ++ fmE true D dp) w) := by
  obtain ⟨d0, hd0⟩ : ∃ d, d = D[0]'(by omega) := ⟨_, rfl⟩
  have hc0 := digs_at hD (Touch.refl [eb] w) hne 0 (by omega)
  rw [← hd0] at hc0
  obtain ⟨R, hR⟩ : ∃ R, R = D.drop 1 := ⟨_, rfl⟩
  have HTd := Lib.hid (show R.length + 1 = nd from by rw [hR, List.length_drop]; omega)
  obtain ⟨X, hX⟩ : ∃ X, X = exT (dp - 1) := ⟨_, rfl⟩
  have HF := Lib.hid (show fmE true D dp = sgn true ++ [d0] ++ (46 :: R) ++ [101] ++ X from by
    unfold fmE
    rw [if_pos (by omega), ← hX, ← hR, hd0]
    congr 4
    cases D with
    | nil => simp at hn; omega
    | cons a b => rfl)
  have HLim := Lib.hid hlim
  have HO := Lib.hid (show Dst eb cur l w ∧ Touch [eb] w w from ⟨hd, Touch.refl _ _⟩)
  have HN := Lib.hid hn0
  have hnz : ((nd : Int) != 0) = true := by rw [bne_iff_ne]; omega
  have hp0 : (0 : Int) < (nd : Int) - 1 := by omega
  have hm1 : (nd : Int) - 1 + 1 = (nd : Int) := by omega
  have hm2 : min (nd : Int) (nd : Int) = (nd : Int) := by omega
  have h1i : (1 : Int) < (nd : Int) := by omega
  have nd20 : nd ≤ 20 := hnd
  obtain ⟨r, hr⟩ : ∃ r, nd = r + 1 := ⟨nd - 1, by omega⟩
  have HRl := Lib.hid (show r = R.length from by have := HTd.out; omega)
  have hsl : ∀ W, (Instr.slice 29 (.slice (some ⟨bb, 0, none⟩) 32 32) (some (.int .i64 1)) (some (.int .i64 (nd : Int))) none).run Tryz.prog W = .ok (.slice (some ⟨bb, 1, none⟩) r 31) W := run_slice1 bb nd r (by omega) hr
  have HDR := Lib.hid (show ∀ W, Touch [eb] w W → ∀ j u, (Lib.byteCells R)[j]? = some u → W.cell? ((⟨bb, 1, none⟩ : Addr).add j) = some u from fun W ht j u hj => by
    have hjl : j < R.length := by
      have := (List.getElem?_eq_some_iff.1 hj).1
      rwa [bc_len] at this
    have h2 : 1 + j < D.length := by rw [hR, List.length_drop] at hjl; omega
    rw [Lib.addr_add, digs_at hD ht hne (1 + j) h2, ← hj]
    simp only [Lib.byteCells, hR, List.getElem?_map, List.getElem?_drop]
    rw [List.getElem?_eq_getElem h2]
    rfl)
  clear hr
  have HE := Lib.hid hE
  have HX := Lib.hid hX
  clear hd hD hn hn0 hR hd0 hX hlim
  obtain ⟨E, hE2⟩ : ∃ E, E = dp - 1 := ⟨_, rfl⟩
  have hE3 : dp - 1 = E := hE2.symm
  have hE4 : E < 0 := by omega
  have hE5 : -E = (x : Int) := by omega
  clear hE2 hE
  go_enter Tryz.func128, Tryz.ntmps128
  go_wp2_with (at_builtin; refine app_new rfl _ _ rfl eb _ _ _ cur _ _ (l) [45] _ rfl ?cb35 rfl rfl ?cn35 rfl ?cd35 ?cr35 ?_)
  case cb35 => first | rfl | simp
  case cn35 => first | exact HN.out | simpa using HN.out
  case cd35 => first | exact HO.out.1 | simpa using HO.out.1
  case cr35 => have := HLim.out; have := HTd.out; (try simp at this ⊢) <;> omega
  intro w35 hd35 ht35
  have HO35 := Lib.hid (show Dst eb cur ((l) ++ [45]) w35 ∧ Touch [eb] w w35 from ⟨by first | exact hd35 | simpa using hd35, HO.out.2.trans ht35⟩)
  have HM35 := Lib.hid (show _ + 1 = ((l) ++ [45]).length from by rw [List.length_append, ← HN.out]; rfl)
  clear hd35 ht35 HO HN
  have hc0' := cell_keep hc0 HO35.out.2 hne
  go_wp2_with (at_builtin; refine app_new rfl _ _ rfl eb _ _ _ cur _ _ ((l) ++ [45]) [d0] _ rfl ?cb36 rfl rfl ?cn36 rfl ?cd36 ?cr36 ?_)
  case cb36 => rfl
  case cn36 => first | exact HM35.out | simpa using HM35.out
  case cd36 => first | exact HO35.out.1 | simpa using HO35.out.1
  case cr36 => have := HLim.out; have := HTd.out; (try simp at this ⊢) <;> omega
  intro w36 hd36 ht36
  have HO36 := Lib.hid (show Dst eb cur (((l) ++ [45]) ++ [d0]) w36 ∧ Touch [eb] w w36 from ⟨by first | exact hd36 | simpa using hd36, HO35.out.2.trans ht36⟩)
  have HM36 := Lib.hid (show _ + 1 = (((l) ++ [45]) ++ [d0]).length from by rw [List.length_append, ← HM35.out]; rfl)
  clear hd36 ht36 HO35 HM35
  go_wp2_with (at_builtin; refine app_new rfl _ _ rfl eb _ _ _ cur _ _ (((l) ++ [45]) ++ [d0]) [46] _ rfl ?cb37 rfl rfl ?cn37 rfl ?cd37 ?cr37 ?_)
  case cb37 => first | rfl | simp
  case cn37 => first | exact HM36.out | simpa using HM36.out
  case cd37 => first | exact HO36.out.1 | simpa using HO36.out.1
  case cr37 => have := HLim.out; have := HTd.out; (try simp at this ⊢) <;> omega
  intro w37 hd37 ht37
  have HO37 := Lib.hid (show Dst eb cur ((((l) ++ [45]) ++ [d0]) ++ [46]) w37 ∧ Touch [eb] w w37 from ⟨by first | exact hd37 | simpa using hd37, HO36.out.2.trans ht37⟩)
  have HM37 := Lib.hid (show _ + 1 = ((((l) ++ [45]) ++ [d0]) ++ [46]).length from by rw [List.length_append, ← HM36.out]; rfl)
  clear hd37 ht37 HO36 HM36
  have HLr := Lib.hid (show ((((l) ++ [45]) ++ [d0]) ++ [46]).length + R.length ≤ 64 from by have := HLim.out; have := HTd.out; (try simp at this ⊢) <;> omega)
  go_wp2_with (at_builtin; refine app_dst rfl _ _ rfl eb _ r 31 ⟨bb, 1, none⟩ cur ((((l) ++ [45]) ++ [d0]) ++ [46]) R _ ?cs90 ?cx90 HM37.out HRl.out HO37.out.1 HLr.out (HDR.out _ HO37.out.2) ?_)
  case cs90 => rfl
  case cx90 => rfl
  intro w90 hd90 ht90
  have HO90 := Lib.hid (show Dst eb cur (((((l) ++ [45]) ++ [d0]) ++ [46]) ++ R) w90 ∧ Touch [eb] w w90 from ⟨by first | exact hd90 | simpa using hd90, HO37.out.2.trans ht90⟩)
  have HM90 := Lib.hid (show _ + r = (((((l) ++ [45]) ++ [d0]) ++ [46]) ++ R).length from by rw [List.length_append, ← HM37.out, ← HRl.out])
  clear hd90 ht90 HO37 HM37
  go_wp2
  go_loopw [0, 114] (fun ds ix wr => ∃ (n : Nat), ix = .int .i64 0 ∧ ds = .slice (some ⟨eb, 1, none⟩) n 64 ∧ Hid (n = (((((l) ++ [45]) ++ [d0]) ++ [46]) ++ R).length) ∧ Hid (Dst eb cur (((((l) ++ [45]) ++ [d0]) ++ [46]) ++ R) wr ∧ Touch [eb] w wr)) (fun _ _ _ => 0)
  case atStart => exact ⟨_, rfl, rfl, HM90, HO90⟩
  case round =>
    obtain ⟨n, rfl, rfl, HM95, HO96⟩ := hrel
    clear HO90 HM90
    go_wp2_with (at_builtin; refine app_new rfl _ _ rfl eb _ _ _ cur _ _ (((((l) ++ [45]) ++ [d0]) ++ [46]) ++ R) [101] _ rfl ?cb38 rfl rfl ?cn38 rfl ?cd38 ?cr38 ?_)
    case cb38 => first | rfl | simp
    case cn38 => first | exact HM95.out | simpa using HM95.out
    case cd38 => first | exact HO96.out.1 | simpa using HO96.out.1
    case cr38 => have := HLim.out; have := HTd.out; (try simp at this ⊢) <;> omega
    intro w38 hd38 ht38
    have HO38 := Lib.hid (show Dst eb cur ((((((l) ++ [45]) ++ [d0]) ++ [46]) ++ R) ++ [101]) w38 ∧ Touch [eb] w w38 from ⟨by first | exact hd38 | simpa using hd38, HO96.out.2.trans ht38⟩)
    have HM38 := Lib.hid (show _ + 1 = ((((((l) ++ [45]) ++ [d0]) ++ [46]) ++ R) ++ [101]).length from by rw [List.length_append, ← HM95.out]; rfl)
    clear hd38 ht38 HO96 HM95
    go_wp2_with (at_builtin; refine app_new rfl _ _ rfl eb _ _ _ cur _ _ ((((((l) ++ [45]) ++ [d0]) ++ [46]) ++ R) ++ [101]) [45] _ rfl ?cb39 rfl rfl ?cn39 rfl ?cd39 ?cr39 ?_)
    case cb39 => first | rfl | simp
    case cn39 => first | exact HM38.out | simpa using HM38.out
    case cd39 => first | exact HO38.out.1 | simpa using HO38.out.1
    case cr39 => have := HLim.out; have := HTd.out; (try simp at this ⊢) <;> omega
    intro w39 hd39 ht39
    have HO39 := Lib.hid (show Dst eb cur (((((((l) ++ [45]) ++ [d0]) ++ [46]) ++ R) ++ [101]) ++ [45]) w39 ∧ Touch [eb] w w39 from ⟨by first | exact hd39 | simpa using hd39, HO38.out.2.trans ht39⟩)
    have HM39 := Lib.hid (show _ + 1 = (((((((l) ++ [45]) ++ [d0]) ++ [46]) ++ R) ++ [101]) ++ [45]).length from by rw [List.length_append, ← HM38.out]; rfl)
    clear hd39 ht39 HO38 HM38
    by_cases h10 : x < 10
    · have hi10 : (x : Int) < 10 := by omega
      obtain ⟨y0, hy0⟩ : ∃ y, y = UInt8.ofNat (48 + x) := ⟨_, rfl⟩
      have hv0 : (x : Int) + 48 = (y0.toNat : Int) := by rw [hy0, dig8 _ (by omega)]; omega
      have HV := Lib.hid (show l ++ fmE true D dp = (((((((l) ++ [45]) ++ [d0]) ++ [46]) ++ R) ++ [101]) ++ [45]) ++ [48, y0] from by
        have hE := HE.out
        rw [HF.out, HX.out, hE]
        have e1 : (-(x : Int)).natAbs = x := by omega
        unfold exT
        rw [e1, if_pos (by omega), if_pos h10, ← hy0]
        simp [sgn])
      clear hy0
      go_wp2_with (at_builtin; refine app_new rfl _ _ rfl eb _ _ _ cur _ _ (((((((l) ++ [45]) ++ [d0]) ++ [46]) ++ R) ++ [101]) ++ [45]) [48, y0] _ rfl ?cb40 rfl rfl ?cn40 rfl ?cd40 ?cr40 ?_)
      case cb40 => simp
      case cn40 => first | exact HM39.out | simpa using HM39.out
      case cd40 => first | exact HO39.out.1 | simpa using HO39.out.1
      case cr40 => have := HLim.out; have := HTd.out; (try simp at this ⊢) <;> omega
      intro w40 hd40 ht40
      have HO40 := Lib.hid (show Dst eb cur ((((((((l) ++ [45]) ++ [d0]) ++ [46]) ++ R) ++ [101]) ++ [45]) ++ [48, y0]) w40 ∧ Touch [eb] w w40 from ⟨by first | exact hd40 | simpa using hd40, HO39.out.2.trans ht40⟩)
      have HM40 := Lib.hid (show _ + 2 = ((((((((l) ++ [45]) ++ [d0]) ++ [46]) ++ R) ++ [101]) ++ [45]) ++ [48, y0]).length from by rw [List.length_append, ← HM39.out]; rfl)
      clear hd40 ht40 HO39 HM39
      go_wp2
      go_ret
      exact ⟨by rw [HV.out, ← HM40.out]; rfl, by rw [HV.out]; exact HO40.out⟩
    by_cases h100 : x < 100
    · have hi10 : ¬ ((x : Int) < 10) := by omega
      have hi100 : (x : Int) < 100 := by omega
      obtain ⟨y0, hy0⟩ : ∃ y, y = UInt8.ofNat (48 + x / 10) := ⟨_, rfl⟩
      have hv0 : (x : Int) / 10 + 48 = (y0.toNat : Int) := by rw [hy0, dig8 _ (by omega)]; omega
      obtain ⟨y1, hy1⟩ : ∃ y, y = UInt8.ofNat (48 + x % 10) := ⟨_, rfl⟩
      have hv1 : (x : Int) % 10 + 48 = (y1.toNat : Int) := by rw [hy1, dig8 _ (by omega)]; omega
      have HV := Lib.hid (show l ++ fmE true D dp = (((((((l) ++ [45]) ++ [d0]) ++ [46]) ++ R) ++ [101]) ++ [45]) ++ [y0, y1] from by
        have hE := HE.out
        rw [HF.out, HX.out, hE]
        have e1 : (-(x : Int)).natAbs = x := by omega
        unfold exT
        rw [e1, if_pos (by omega), if_neg h10, if_pos h100, ← hy0, ← hy1]
        simp [sgn])
      clear hy0 hy1
      go_wp2_with (at_builtin; refine app_new rfl _ _ rfl eb _ _ _ cur _ _ (((((((l) ++ [45]) ++ [d0]) ++ [46]) ++ R) ++ [101]) ++ [45]) [y0, y1] _ rfl ?cb41 rfl rfl ?cn41 rfl ?cd41 ?cr41 ?_)
      case cb41 => simp
      case cn41 => first | exact HM39.out | simpa using HM39.out
      case cd41 => first | exact HO39.out.1 | simpa using HO39.out.1
      case cr41 => have := HLim.out; have := HTd.out; (try simp at this ⊢) <;> omega
      intro w41 hd41 ht41
      have HO41 := Lib.hid (show Dst eb cur ((((((((l) ++ [45]) ++ [d0]) ++ [46]) ++ R) ++ [101]) ++ [45]) ++ [y0, y1]) w41 ∧ Touch [eb] w w41 from ⟨by first | exact hd41 | simpa using hd41, HO39.out.2.trans ht41⟩)
      have HM41 := Lib.hid (show _ + 2 = ((((((((l) ++ [45]) ++ [d0]) ++ [46]) ++ R) ++ [101]) ++ [45]) ++ [y0, y1]).length from by rw [List.length_append, ← HM39.out]; rfl)
      clear hd41 ht41 HO39 HM39
      go_wp2
      go_ret
      exact ⟨by rw [HV.out, ← HM41.out]; rfl, by rw [HV.out]; exact HO41.out⟩
    · have hi10 : ¬ ((x : Int) < 10) := by omega
      have hi100 : ¬ ((x : Int) < 100) := by omega
      obtain ⟨y0, hy0⟩ : ∃ y, y = UInt8.ofNat (48 + x / 100) := ⟨_, rfl⟩
      have hv0 : (x : Int) / 100 + 48 = (y0.toNat : Int) := by rw [hy0, dig8 _ (by omega)]; omega
      obtain ⟨y1, hy1⟩ : ∃ y, y = UInt8.ofNat (48 + x / 10 % 10) := ⟨_, rfl⟩
      have hv1 : (x : Int) / 10 % 10 + 48 = (y1.toNat : Int) := by rw [hy1, dig8 _ (by omega)]; omega
      obtain ⟨y2, hy2⟩ : ∃ y, y = UInt8.ofNat (48 + x % 10) := ⟨_, rfl⟩
      have hv2 : (x : Int) % 10 + 48 = (y2.toNat : Int) := by rw [hy2, dig8 _ (by omega)]; omega
      have HV := Lib.hid (show l ++ fmE true D dp = (((((((l) ++ [45]) ++ [d0]) ++ [46]) ++ R) ++ [101]) ++ [45]) ++ [y0, y1, y2] from by
        have hE := HE.out
        rw [HF.out, HX.out, hE]
        have e1 : (-(x : Int)).natAbs = x := by omega
        unfold exT
        rw [e1, if_pos (by omega), if_neg h10, if_neg h100, ← hy0, ← hy1, ← hy2]
        simp [sgn])
      clear hy0 hy1 hy2
      go_wp2_with (at_builtin; refine app_new rfl _ _ rfl eb _ _ _ cur _ _ (((((((l) ++ [45]) ++ [d0]) ++ [46]) ++ R) ++ [101]) ++ [45]) [y0, y1, y2] _ rfl ?cb42 rfl rfl ?cn42 rfl ?cd42 ?cr42 ?_)
      case cb42 => simp
      case cn42 => first | exact HM39.out | simpa using HM39.out
      case cd42 => first | exact HO39.out.1 | simpa using HO39.out.1
      case cr42 => have := HLim.out; have := HTd.out; (try simp at this ⊢) <;> omega
      intro w42 hd42 ht42
      have HO42 := Lib.hid (show Dst eb cur ((((((((l) ++ [45]) ++ [d0]) ++ [46]) ++ R) ++ [101]) ++ [45]) ++ [y0, y1, y2]) w42 ∧ Touch [eb] w w42 from ⟨by first | exact hd42 | simpa using hd42, HO39.out.2.trans ht42⟩)
      have HM42 := Lib.hid (show _ + 3 = ((((((((l) ++ [45]) ++ [d0]) ++ [46]) ++ R) ++ [101]) ++ [45]) ++ [y0, y1, y2]).length from by rw [List.length_append, ← HM39.out]; rfl)
      clear hd42 ht42 HO39 HM39
      go_wp2
      go_ret
      exact ⟨by rw [HV.out, ← HM42.out]; rfl, by rw [HV.out]; exact HO42.out⟩
set_option maxRecDepth 100000 in
set_option maxHeartbeats 6400000 in
theorem fmE_true_1 (eb bb nd x n0 : Nat) (dp : Int) (cur : Array Value) (l D : List UInt8) (w : World) (hd : Dst eb cur l w) (hD : Digs32 bb D w) (hne : bb ≠ eb) (h1 : nd = 1) (hE : dp - 1 = (x : Int)) (hx : x < 400) (hnd : nd ≤ 20) (hn : D.length = nd) (hn0 : n0 = l.length) (hlim : l.length + nd + 8 ≤ 64) :
    Calls Tryz.prog 128 #[.slice (some ⟨eb, 1, none⟩) n0 64, .bool true, .slice (some ⟨bb, 0, none⟩) 32 32, .int .i64 dp, .int .i64 (nd : Int), .int .i64 ((nd : Int) - 1), .int .u8 101, .bool true] w (FmtPost eb cur (l ++ fmE true D dp) w) := by
  subst h1
  obtain ⟨d0, hd0⟩ : ∃ d, d = D[0]'(by omega) := ⟨_, rfl⟩
  have hc0 := digs_at hD (Touch.refl [eb] w) hne 0 (by omega)
  rw [← hd0] at hc0
  obtain ⟨R, hR⟩ : ∃ R, R = D.drop 1 := ⟨_, rfl⟩
  have HTd := Lib.hid (show R.length + 1 = 1 from by rw [hR, List.length_drop]; omega)
  obtain ⟨X, hX⟩ : ∃ X, X = exT (dp - 1) := ⟨_, rfl⟩
  have HF := Lib.hid (show fmE true D dp = sgn true ++ [d0] ++ [] ++ [101] ++ X from by
    unfold fmE
    rw [if_neg (by omega), ← hX, hd0]
    congr 4
    cases D with
    | nil => simp at hn
    | cons a b => rfl)
  have HLim := Lib.hid hlim
  have HO := Lib.hid (show Dst eb cur l w ∧ Touch [eb] w w from ⟨hd, Touch.refl _ _⟩)
  have HN := Lib.hid hn0
  have HE := Lib.hid hE
  have HX := Lib.hid hX
  clear hd hD hn hn0 hR hd0 hX hlim
  go_enter Tryz.func128, Tryz.ntmps128
  go_wp2_with (at_builtin; refine app_new rfl _ _ rfl eb _ _ _ cur _ _ (l) [45] _ rfl ?cb43 rfl rfl ?cn43 rfl ?cd43 ?cr43 ?_)
  case cb43 => first | rfl | simp
  case cn43 => first | exact HN.out | simpa using HN.out
  case cd43 => first | exact HO.out.1 | simpa using HO.out.1
  case cr43 => have := HLim.out; have := HTd.out; (try simp at this ⊢) <;> omega
  intro w43 hd43 ht43
  have HO43 := Lib.hid (show Dst eb cur ((l) ++ [45]) w43 ∧ Touch [eb] w w43 from ⟨by first | exact hd43 | simpa using hd43, HO.out.2.trans ht43⟩)
  have HM43 := Lib.hid (show _ + 1 = ((l) ++ [45]).length from by rw [List.length_append, ← HN.out]; rfl)
  clear hd43 ht43 HO HN
  have hc0' := cell_keep hc0 HO43.out.2 hne
  go_wp2_with (at_builtin; refine app_new rfl _ _ rfl eb _ _ _ cur _ _ ((l) ++ [45]) [d0] _ rfl ?cb44 rfl rfl ?cn44 rfl ?cd44 ?cr44 ?_)
  case cb44 => rfl
  case cn44 => first | exact HM43.out | simpa using HM43.out
  case cd44 => first | exact HO43.out.1 | simpa using HO43.out.1
  case cr44 => have := HLim.out; have := HTd.out; (try simp at this ⊢) <;> omega
  intro w44 hd44 ht44
  have HO44 := Lib.hid (show Dst eb cur (((l) ++ [45]) ++ [d0]) w44 ∧ Touch [eb] w w44 from ⟨by first | exact hd44 | simpa using hd44, HO43.out.2.trans ht44⟩)
  have HM44 := Lib.hid (show _ + 1 = (((l) ++ [45]) ++ [d0]).length from by rw [List.length_append, ← HM43.out]; rfl)
  clear hd44 ht44 HO43 HM43
  go_wp2_with (at_builtin; refine app_new rfl _ _ rfl eb _ _ _ cur _ _ (((l) ++ [45]) ++ [d0]) [101] _ rfl ?cb45 rfl rfl ?cn45 rfl ?cd45 ?cr45 ?_)
  case cb45 => first | rfl | simp
  case cn45 => first | exact HM44.out | simpa using HM44.out
  case cd45 => first | exact HO44.out.1 | simpa using HO44.out.1
  case cr45 => have := HLim.out; have := HTd.out; (try simp at this ⊢) <;> omega
  intro w45 hd45 ht45
  have HO45 := Lib.hid (show Dst eb cur ((((l) ++ [45]) ++ [d0]) ++ [101]) w45 ∧ Touch [eb] w w45 from ⟨by first | exact hd45 | simpa using hd45, HO44.out.2.trans ht45⟩)
  have HM45 := Lib.hid (show _ + 1 = ((((l) ++ [45]) ++ [d0]) ++ [101]).length from by rw [List.length_append, ← HM44.out]; rfl)
  clear hd45 ht45 HO44 HM44
  go_wp2_with (at_builtin; refine app_new rfl _ _ rfl eb _ _ _ cur _ _ ((((l) ++ [45]) ++ [d0]) ++ [101]) [43] _ rfl ?cb46 rfl rfl ?cn46 rfl ?cd46 ?cr46 ?_)
  case cb46 => first | rfl | simp
  case cn46 => first | exact HM45.out | simpa using HM45.out
  case cd46 => first | exact HO45.out.1 | simpa using HO45.out.1
  case cr46 => have := HLim.out; have := HTd.out; (try simp at this ⊢) <;> omega
  intro w46 hd46 ht46
  have HO46 := Lib.hid (show Dst eb cur (((((l) ++ [45]) ++ [d0]) ++ [101]) ++ [43]) w46 ∧ Touch [eb] w w46 from ⟨by first | exact hd46 | simpa using hd46, HO45.out.2.trans ht46⟩)
  have HM46 := Lib.hid (show _ + 1 = (((((l) ++ [45]) ++ [d0]) ++ [101]) ++ [43]).length from by rw [List.length_append, ← HM45.out]; rfl)
  clear hd46 ht46 HO45 HM45
  by_cases h10 : x < 10
  · have hi10 : (x : Int) < 10 := by omega
    obtain ⟨y0, hy0⟩ : ∃ y, y = UInt8.ofNat (48 + x) := ⟨_, rfl⟩
    have hv0 : (x : Int) + 48 = (y0.toNat : Int) := by rw [hy0, dig8 _ (by omega)]; omega
    have HV := Lib.hid (show l ++ fmE true D dp = (((((l) ++ [45]) ++ [d0]) ++ [101]) ++ [43]) ++ [48, y0] from by
      have hE := HE.out
      rw [HF.out, HX.out, hE]
      have e1 : ((x : Int)).natAbs = x := by omega
      unfold exT
      rw [e1, if_neg (by omega), if_pos h10, ← hy0]
      simp [sgn])
    clear hy0
    go_wp2_with (at_builtin; refine app_new rfl _ _ rfl eb _ _ _ cur _ _ (((((l) ++ [45]) ++ [d0]) ++ [101]) ++ [43]) [48, y0] _ rfl ?cb47 rfl rfl ?cn47 rfl ?cd47 ?cr47 ?_)
    case cb47 => simp
    case cn47 => first | exact HM46.out | simpa using HM46.out
    case cd47 => first | exact HO46.out.1 | simpa using HO46.out.1
    case cr47 => have := HLim.out; have := HTd.out; (try simp at this ⊢) <;> omega
    intro w47 hd47 ht47
    have HO47 := Lib.hid (show Dst eb cur ((((((l) ++ [45]) ++ [d0]) ++ [101]) ++ [43]) ++ [48, y0]) w47 ∧ Touch [eb] w w47 from ⟨by first | exact hd47 | simpa using hd47, HO46.out.2.trans ht47⟩)
    have HM47 := Lib.hid (show _ + 2 = ((((((l) ++ [45]) ++ [d0]) ++ [101]) ++ [43]) ++ [48, y0]).length from by rw [List.length_append, ← HM46.out]; rfl)
    clear hd47 ht47 HO46 HM46
    go_wp2
    go_ret
    exact ⟨by rw [HV.out, ← HM47.out]; rfl, by rw [HV.out]; exact HO47.out⟩
  by_cases h100 : x < 100
  · have hi10 : ¬ ((x : Int) < 10) := by omega
    have hi100 : (x : Int) < 100 := by omega
    obtain ⟨y0, hy0⟩ : ∃ y, y = UInt8.ofNat (48 + x / 10) := ⟨_, rfl⟩
    have hv0 : (x : Int) / 10 + 48 = (y0.toNat : Int) := by rw [hy0, dig8 _ (by omega)]; omega
    obtain ⟨y1, hy1⟩ : ∃ y, y = UInt8.ofNat (48 + x % 10) := ⟨_, rfl⟩
    have hv1 : (x : Int) % 10 + 48 = (y1.toNat : Int) := by rw [hy1, dig8 _ (by omega)]; omega
    have HV := Lib.hid (show l ++ fmE true D dp = (((((l) ++ [45]) ++ [d0]) ++ [101]) ++ [43]) ++ [y0, y1] from by
      have hE := HE.out
      rw [HF.out, HX.out, hE]
      have e1 : ((x : Int)).natAbs = x := by omega
      unfold exT
      rw [e1, if_neg (by omega), if_neg h10, if_pos h100, ← hy0, ← hy1]
      simp [sgn])
    clear hy0 hy1
    go_wp2_with (at_builtin; refine app_new rfl _ _ rfl eb _ _ _ cur _ _ (((((l) ++ [45]) ++ [d0]) ++ [101]) ++ [43]) [y0, y1] _ rfl ?cb48 rfl rfl ?cn48 rfl ?cd48 ?cr48 ?_)
    case cb48 => simp
    case cn48 => first | exact HM46.out | simpa using HM46.out
    case cd48 => first | exact HO46.out.1 | simpa using HO46.out.1
    case cr48 => have := HLim.out; have := HTd.out; (try simp at this ⊢) <;> omega
    intro w48 hd48 ht48
    have HO48 := Lib.hid (show Dst eb cur ((((((l) ++ [45]) ++ [d0]) ++ [101]) ++ [43]) ++ [y0, y1]) w48 ∧ Touch [eb] w w48 from ⟨by first | exact hd48 | simpa using hd48, HO46.out.2.trans ht48⟩)
    have HM48 := Lib.hid (show _ + 2 = ((((((l) ++ [45]) ++ [d0]) ++ [101]) ++ [43]) ++ [y0, y1]).length from by rw [List.length_append, ← HM46.out]; rfl)
    clear hd48 ht48 HO46 HM46
    go_wp2
    go_ret
    exact ⟨by rw [HV.out, ← HM48.out]; rfl, by rw [HV.out]; exact HO48.out⟩
  · have hi10 : ¬ ((x : Int) < 10) := by omega
    have hi100 : ¬ ((x : Int) < 100) := by omega
    obtain ⟨y0, hy0⟩ : ∃ y, y = UInt8.ofNat (48 + x / 100) := ⟨_, rfl⟩
    have hv0 : (x : Int) / 100 + 48 = (y0.toNat : Int) := by rw [hy0, dig8 _ (by omega)]; omega
    obtain ⟨y1, hy1⟩ : ∃ y, y = UInt8.ofNat (48 + x / 10 % 10) := ⟨_, rfl⟩
    have hv1 : (x : Int) / 10 % 10 + 48 = (y1.toNat : Int) := by rw [hy1, dig8 _ (by omega)]; omega
    obtain ⟨y2, hy2⟩ : ∃ y, y = UInt8.ofNat (48 + x % 10) := ⟨_, rfl⟩
    have hv2 : (x : Int) % 10 + 48 = (y2.toNat : Int) := by rw [hy2, dig8 _ (by omega)]; omega
    have HV := Lib.hid (show l ++ fmE true D dp = (((((l) ++ [45]) ++ [d0]) ++ [101]) ++ [43]) ++ [y0, y1, y2] from by
      have hE := HE.out
      rw [HF.out, HX.out, hE]
      have e1 : ((x : Int)).natAbs = x := by omega
      unfold exT
      rw [e1, if_neg (by omega), if_neg h10, if_neg h100, ← hy0, ← hy1, ← hy2]
      simp [sgn])
    clear hy0 hy1 hy2
    go_wp2_with (at_builtin; refine app_new rfl _ _ rfl eb _ _ _ cur _ _ (((((l) ++ [45]) ++ [d0]) ++ [101]) ++ [43]) [y0, y1, y2] _ rfl ?cb49 rfl rfl ?cn49 rfl ?cd49 ?cr49 ?_)
    case cb49 => simp
    case cn49 => first | exact HM46.out | simpa using HM46.out
    case cd49 => first | exact HO46.out.1 | simpa using HO46.out.1
    case cr49 => have := HLim.out; have := HTd.out; (try simp at this ⊢) <;> omega
    intro w49 hd49 ht49
    have HO49 := Lib.hid (show Dst eb cur ((((((l) ++ [45]) ++ [d0]) ++ [101]) ++ [43]) ++ [y0, y1, y2]) w49 ∧ Touch [eb] w w49 from ⟨by first | exact hd49 | simpa using hd49, HO46.out.2.trans ht49⟩)
    have HM49 := Lib.hid (show _ + 3 = ((((((l) ++ [45]) ++ [d0]) ++ [101]) ++ [43]) ++ [y0, y1, y2]).length from by rw [List.length_append, ← HM46.out]; rfl)
    clear hd49 ht49 HO46 HM46
    go_wp2
    go_ret
    exact ⟨by rw [HV.out, ← HM49.out]; rfl, by rw [HV.out]; exact HO49.out⟩
set_option maxRecDepth 100000 in
set_option maxHeartbeats 6400000 in
theorem fmE_true_1_n (eb bb nd x n0 : Nat) (dp : Int) (cur : Array Value) (l D : List UInt8) (w : World) (hd : Dst eb cur l w) (hD : Digs32 bb D w) (hne : bb ≠ eb) (h1 : nd = 1) (hE : dp - 1 = -(x : Int)) (hx1 : 0 < x) (hx : x < 400) (hnd : nd ≤ 20) (hn : D.length = nd) (hn0 : n0 = l.length) (hlim : l.length + nd + 8 ≤ 64) :
    Calls Tryz.prog 128 #[.slice (some ⟨eb, 1, none⟩) n0 64, .bool true, .slice (some ⟨bb, 0, none⟩) 32 32, .int .i64 dp, .int .i64 (nd : Int), .int .i64 ((nd : Int) - 1), .int .u8 101, .bool true] w (FmtPost eb cur (l ++ fmE true D dp) w) := by
  subst h1
  obtain ⟨d0, hd0⟩ : ∃ d, d = D[0]'(by omega) := ⟨_, rfl⟩
  have hc0 := digs_at hD (Touch.refl [eb] w) hne 0 (by omega)
  rw [← hd0] at hc0
  obtain ⟨R, hR⟩ : ∃ R, R = D.drop 1 := ⟨_, rfl⟩
  have HTd := Lib.hid (show R.length + 1 = 1 from by rw [hR, List.length_drop]; omega)
  obtain ⟨X, hX⟩ : ∃ X, X = exT (dp - 1) := ⟨_, rfl⟩
  have HF := Lib.hid (show fmE true D dp = sgn true ++ [d0] ++ [] ++ [101] ++ X from by
    unfold fmE
    rw [if_neg (by omega), ← hX, hd0]
    congr 4
    cases D with
    | nil => simp at hn
    | cons a b => rfl)
  have HLim := Lib.hid hlim
  have HO := Lib.hid (show Dst eb cur l w ∧ Touch [eb] w w from ⟨hd, Touch.refl _ _⟩)
  have HN := Lib.hid hn0
  have HE := Lib.hid hE
  have HX := Lib.hid hX
  clear hd hD hn hn0 hR hd0 hX hlim
  obtain ⟨E, hE2⟩ : ∃ E, E = dp - 1 := ⟨_, rfl⟩
  have hE3 : dp - 1 = E := hE2.symm
  have hE4 : E < 0 := by omega
  have hE5 : -E = (x : Int) := by omega
  clear hE2 hE
  go_enter Tryz.func128, Tryz.ntmps128
  go_wp2_with (at_builtin; refine app_new rfl _ _ rfl eb _ _ _ cur _ _ (l) [45] _ rfl ?cb50 rfl rfl ?cn50 rfl ?cd50 ?cr50 ?_)
  case cb50 => first | rfl | simp
  case cn50 => first | exact HN.out | simpa using HN.out
  case cd50 => first | exact HO.out.1 | simpa using HO.out.1
  case cr50 => have := HLim.out; have := HTd.out; (try simp at this ⊢) <;> omega
  intro w50 hd50 ht50
  have HO50 := Lib.hid (show Dst eb cur ((l) ++ [45]) w50 ∧ Touch [eb] w w50 from ⟨by first | exact hd50 | simpa using hd50, HO.out.2.trans ht50⟩)
  have HM50 := Lib.hid (show _ + 1 = ((l) ++ [45]).length from by rw [List.length_append, ← HN.out]; rfl)
  clear hd50 ht50 HO HN
  have hc0' := cell_keep hc0 HO50.out.2 hne
  go_wp2_with (at_builtin; refine app_new rfl _ _ rfl eb _ _ _ cur _ _ ((l) ++ [45]) [d0] _ rfl ?cb51 rfl rfl ?cn51 rfl ?cd51 ?cr51 ?_)
  case cb51 => rfl
  case cn51 => first | exact HM50.out | simpa using HM50.out
  case cd51 => first | exact HO50.out.1 | simpa using HO50.out.1
  case cr51 => have := HLim.out; have := HTd.out; (try simp at this ⊢) <;> omega
  intro w51 hd51 ht51
  have HO51 := Lib.hid (show Dst eb cur (((l) ++ [45]) ++ [d0]) w51 ∧ Touch [eb] w w51 from ⟨by first | exact hd51 | simpa using hd51, HO50.out.2.trans ht51⟩)
  have HM51 := Lib.hid (show _ + 1 = (((l) ++ [45]) ++ [d0]).length from by rw [List.length_append, ← HM50.out]; rfl)
  clear hd51 ht51 HO50 HM50
  go_wp2_with (at_builtin; refine app_new rfl _ _ rfl eb _ _ _ cur _ _ (((l) ++ [45]) ++ [d0]) [101] _ rfl ?cb52 rfl rfl ?cn52 rfl ?cd52 ?cr52 ?_)
  case cb52 => first | rfl | simp
  case cn52 => first | exact HM51.out | simpa using HM51.out
  case cd52 => first | exact HO51.out.1 | simpa using HO51.out.1
  case cr52 => have := HLim.out; have := HTd.out; (try simp at this ⊢) <;> omega
  intro w52 hd52 ht52
  have HO52 := Lib.hid (show Dst eb cur ((((l) ++ [45]) ++ [d0]) ++ [101]) w52 ∧ Touch [eb] w w52 from ⟨by first | exact hd52 | simpa using hd52, HO51.out.2.trans ht52⟩)
  have HM52 := Lib.hid (show _ + 1 = ((((l) ++ [45]) ++ [d0]) ++ [101]).length from by rw [List.length_append, ← HM51.out]; rfl)
  clear hd52 ht52 HO51 HM51
  go_wp2_with (at_builtin; refine app_new rfl _ _ rfl eb _ _ _ cur _ _ ((((l) ++ [45]) ++ [d0]) ++ [101]) [45] _ rfl ?cb53 rfl rfl ?cn53 rfl ?cd53 ?cr53 ?_)
  case cb53 => first | rfl | simp
  case cn53 => first | exact HM52.out | simpa using HM52.out
  case cd53 => first | exact HO52.out.1 | simpa using HO52.out.1
  case cr53 => have := HLim.out; have := HTd.out; (try simp at this ⊢) <;> omega
  intro w53 hd53 ht53
  have HO53 := Lib.hid (show Dst eb cur (((((l) ++ [45]) ++ [d0]) ++ [101]) ++ [45]) w53 ∧ Touch [eb] w w53 from ⟨by first | exact hd53 | simpa using hd53, HO52.out.2.trans ht53⟩)
  have HM53 := Lib.hid (show _ + 1 = (((((l) ++ [45]) ++ [d0]) ++ [101]) ++ [45]).length from by rw [List.length_append, ← HM52.out]; rfl)
  clear hd53 ht53 HO52 HM52
  by_cases h10 : x < 10
  · have hi10 : (x : Int) < 10 := by omega
    obtain ⟨y0, hy0⟩ : ∃ y, y = UInt8.ofNat (48 + x) := ⟨_, rfl⟩
    have hv0 : (x : Int) + 48 = (y0.toNat : Int) := by rw [hy0, dig8 _ (by omega)]; omega
    have HV := Lib.hid (show l ++ fmE true D dp = (((((l) ++ [45]) ++ [d0]) ++ [101]) ++ [45]) ++ [48, y0] from by
      have hE := HE.out
      rw [HF.out, HX.out, hE]
      have e1 : (-(x : Int)).natAbs = x := by omega
      unfold exT
      rw [e1, if_pos (by omega), if_pos h10, ← hy0]
      simp [sgn])
    clear hy0
    go_wp2_with (at_builtin; refine app_new rfl _ _ rfl eb _ _ _ cur _ _ (((((l) ++ [45]) ++ [d0]) ++ [101]) ++ [45]) [48, y0] _ rfl ?cb54 rfl rfl ?cn54 rfl ?cd54 ?cr54 ?_)
    case cb54 => simp
    case cn54 => first | exact HM53.out | simpa using HM53.out
    case cd54 => first | exact HO53.out.1 | simpa using HO53.out.1
    case cr54 => have := HLim.out; have := HTd.out; (try simp at this ⊢) <;> omega
    intro w54 hd54 ht54
    have HO54 := Lib.hid (show Dst eb cur ((((((l) ++ [45]) ++ [d0]) ++ [101]) ++ [45]) ++ [48, y0]) w54 ∧ Touch [eb] w w54 from ⟨by first | exact hd54 | simpa using hd54, HO53.out.2.trans ht54⟩)
    have HM54 := Lib.hid (show _ + 2 = ((((((l) ++ [45]) ++ [d0]) ++ [101]) ++ [45]) ++ [48, y0]).length from by rw [List.length_append, ← HM53.out]; rfl)
    clear hd54 ht54 HO53 HM53
    go_wp2
    go_ret
    exact ⟨by rw [HV.out, ← HM54.out]; rfl, by rw [HV.out]; exact HO54.out⟩
  by_cases h100 : x < 100
  · have hi10 : ¬ ((x : Int) < 10) := by omega
    have hi100 : (x : Int) < 100 := by omega
    obtain ⟨y0, hy0⟩ : ∃ y, y = UInt8.ofNat (48 + x / 10) := ⟨_, rfl⟩
    have hv0 : (x : Int) / 10 + 48 = (y0.toNat : Int) := by rw [hy0, dig8 _ (by omega)]; omega
    obtain ⟨y1, hy1⟩ : ∃ y, y = UInt8.ofNat (48 + x % 10) := ⟨_, rfl⟩
    have hv1 : (x : Int) % 10 + 48 = (y1.toNat : Int) := by rw [hy1, dig8 _ (by omega)]; omega
    have HV := Lib.hid (show l ++ fmE true D dp = (((((l) ++ [45]) ++ [d0]) ++ [101]) ++ [45]) ++ [y0, y1] from by
      have hE := HE.out
      rw [HF.out, HX.out, hE]
      have e1 : (-(x : Int)).natAbs = x := by omega
      unfold exT
      rw [e1, if_pos (by omega), if_neg h10, if_pos h100, ← hy0, ← hy1]
      simp [sgn])
    clear hy0 hy1
    go_wp2_with (at_builtin; refine app_new rfl _ _ rfl eb _ _ _ cur _ _ (((((l) ++ [45]) ++ [d0]) ++ [101]) ++ [45]) [y0, y1] _ rfl ?cb55 rfl rfl ?cn55 rfl ?cd55 ?cr55 ?_)
    case cb55 => simp
    case cn55 => first | exact HM53.out | simpa using HM53.out
    case cd55 => first | exact HO53.out.1 | simpa using HO53.out.1
    case cr55 => have := HLim.out; have := HTd.out; (try simp at this ⊢) <;> omega
    intro w55 hd55 ht55
    have HO55 := Lib.hid (show Dst eb cur ((((((l) ++ [45]) ++ [d0]) ++ [101]) ++ [45]) ++ [y0, y1]) w55 ∧ Touch [eb] w w55 from ⟨by first | exact hd55 | simpa using hd55, HO53.out.2.trans ht55⟩)
    have HM55 := Lib.hid (show _ + 2 = ((((((l) ++ [45]) ++ [d0]) ++ [101]) ++ [45]) ++ [y0, y1]).length from by rw [List.length_append, ← HM53.out]; rfl)
    clear hd55 ht55 HO53 HM53
    go_wp2
    go_ret
    exact ⟨by rw [HV.out, ← HM55.out]; rfl, by rw [HV.out]; exact HO55.out⟩
  · have hi10 : ¬ ((x : Int) < 10) := by omega
    have hi100 : ¬ ((x : Int) < 100) := by omega
    obtain ⟨y0, hy0⟩ : ∃ y, y = UInt8.ofNat (48 + x / 100) := ⟨_, rfl⟩
    have hv0 : (x : Int) / 100 + 48 = (y0.toNat : Int) := by rw [hy0, dig8 _ (by omega)]; omega
    obtain ⟨y1, hy1⟩ : ∃ y, y = UInt8.ofNat (48 + x / 10 % 10) := ⟨_, rfl⟩
    have hv1 : (x : Int) / 10 % 10 + 48 = (y1.toNat : Int) := by rw [hy1, dig8 _ (by omega)]; omega
    obtain ⟨y2, hy2⟩ : ∃ y, y = UInt8.ofNat (48 + x % 10) := ⟨_, rfl⟩
    have hv2 : (x : Int) % 10 + 48 = (y2.toNat : Int) := by rw [hy2, dig8 _ (by omega)]; omega
    have HV := Lib.hid (show l ++ fmE true D dp = (((((l) ++ [45]) ++ [d0]) ++ [101]) ++ [45]) ++ [y0, y1, y2] from by
      have hE := HE.out
      rw [HF.out, HX.out, hE]
      have e1 : (-(x : Int)).natAbs = x := by omega
      unfold exT
      rw [e1, if_pos (by omega), if_neg h10, if_neg h100, ← hy0, ← hy1, ← hy2]
      simp [sgn])
    clear hy0 hy1 hy2
    go_wp2_with (at_builtin; refine app_new rfl _ _ rfl eb _ _ _ cur _ _ (((((l) ++ [45]) ++ [d0]) ++ [101]) ++ [45]) [y0, y1, y2] _ rfl ?cb56 rfl rfl ?cn56 rfl ?cd56 ?cr56 ?_)
    case cb56 => simp
    case cn56 => first | exact HM53.out | simpa using HM53.out
    case cd56 => first | exact HO53.out.1 | simpa using HO53.out.1
    case cr56 => have := HLim.out; have := HTd.out; (try simp at this ⊢) <;> omega
    intro w56 hd56 ht56
    have HO56 := Lib.hid (show Dst eb cur ((((((l) ++ [45]) ++ [d0]) ++ [101]) ++ [45]) ++ [y0, y1, y2]) w56 ∧ Touch [eb] w w56 from ⟨by first | exact hd56 | simpa using hd56, HO53.out.2.trans ht56⟩)
    have HM56 := Lib.hid (show _ + 3 = ((((((l) ++ [45]) ++ [d0]) ++ [101]) ++ [45]) ++ [y0, y1, y2]).length from by rw [List.length_append, ← HM53.out]; rfl)
    clear hd56 ht56 HO53 HM53
    go_wp2
    go_ret
    exact ⟨by rw [HV.out, ← HM56.out]; rfl, by rw [HV.out]; exact HO56.out⟩
end Go.Proofs.YtdkccihoecpcaaaGreatFmt
