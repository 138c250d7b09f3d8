/- Base64's Encode, walked. Conditions: at most 1048576 bytes. -/
import Derived.Test.YtlhndkonhjjcgaaGreatFmtNe
import Derived.Test.YtlhndkonhjjcgaaGreatFmtB64P
import Derived.Test.YtlhndkonhjjcgaaGreatFmtEsc
import Derived.Laws.BitsAllLaws
namespace Go.Proofs.YtlhndkonhjjcgaaGreatFmt
open Go.RowKit Go
/-- Whatever world the walk has come to: what is known of it. -/
theorem at_world {P : Program} {c : Code} {Q : Exit → Act → World → Prop} {a : Act} {W : World} (X : World → Prop) (h : X W) (k : ∀ W', X W' → Code.wp P c Q a W') : Code.wp P c Q a W := k W h
theorem at_end {Q : Exit → Act → World → Prop} {e : Exit} {a : Act} {W : World} (X : World → Prop) (h : X W) (k : ∀ W', X W' → Q e a W') : Q e a W := k W h
/-- A row of n cells of which the first hold l; nothing else has been touched. -/
def RowA (g n : Nat) (l : List UInt8) (w0 W : World) : Prop := (∃ cur, W.heap[g]? = some (.cells cur 5 (0, 0)) ∧ cur.size = n ∧ ∀ j (h : j < l.length), cur[j]? = some (.int .u8 ((l[j]'h).toNat : Int))) ∧ Touch [g] w0 W
theorem rowA_drewN {g n : Nat} {l : List UInt8} {w0 W : World} (h : RowA g n l w0 W) (q : Nat) : RowA g n l w0 (W.drewN q) := ⟨h.1, h.2.drewN q⟩
theorem rowA_cell {g n : Nat} {l : List UInt8} {w0 W : World} (h : RowA g n l w0 W) (j : Nat) (hj : j < n) : ∃ v, W.cell? ⟨g, j, none⟩ = some v ∧ W.frozen? ⟨g, j, none⟩ = false := by
  obtain ⟨cur, hg, hz, _⟩ := h.1
  refine ⟨cur[j]'(by omega), ?_, by simp [World.frozen?, hg]⟩
  rw [Lib.cell_of_heap hg]
  exact Array.getElem?_eq_getElem _
theorem rowA_put {g n : Nat} {l : List UInt8} {w0 W : World} (h : RowA g n l w0 W) (x : UInt8) (p : Nat) (z : Int) (hp : p = l.length) (hz : z = (x.toNat : Int)) (hl : l.length < n) : RowA g n (l ++ [x]) w0 (W.setCell ⟨g, p, none⟩ (.int .u8 z)) := by
  subst hp hz
  obtain ⟨⟨cur, hg, hz, hc⟩, ht⟩ := h
  refine ⟨⟨_, heap_setCell_same _ _ _ _ _ _ hg, by rw [Array.size_setIfInBounds]; exact hz, fun j hj => ?_⟩, ?_⟩
  · rw [List.length_append, List.length_singleton] at hj
    by_cases e : j = l.length
    · subst e
      rw [Array.getElem?_setIfInBounds_self_of_lt (by omega), List.getElem_append_right (Nat.le_refl _)]
      simp
    · rw [Array.getElem?_setIfInBounds_ne (by omega), List.getElem_append_left (by omega)]
      exact hc j (by omega)
  · rw [setCell_eq_setRow W g _ cur _ _ _ hg]
    exact ht.setRow g (.inl (by simp)) _
theorem or3 (a b c : Nat) (ha : a < 256) (hb : b < 256) (hc : c < 256) : bits .or .u64 (bits .or .u64 ((a : Int) * 65536) ((b : Int) * 256)) (c : Int) = ((a * 65536 + b * 256 + c : Nat) : Int) := by
  have e1 : (a : Int) * 65536 = ((a * 65536 : Nat) : Int) := by omega
  have e2 : (b : Int) * 256 = ((b * 256 : Nat) : Int) := by omega
  rw [e1, e2, u64_or_nat _ _ (by omega) (by omega), nat_join 16 _ _ (by omega) (by omega), u64_or_nat _ _ (by omega) (by omega), nat_join 8 _ _ (by omega) (by omega)]
theorem and63a (v : Nat) (hv : v < 16777216) : bits .and .u64 (v : Int) 63 = ((v % 64 : Nat) : Int) := by
  have h := u64_and_nat v 63 (by omega) (by omega)
  rw [show v &&& 63 = v % 64 from Nat.and_two_pow_sub_one_eq_mod v 6] at h
  exact h
theorem and63 (v q : Nat) (hv : v < 16777216) : bits .and .u64 ((v : Int) / (q : Int)) 63 = ((v / q % 64 : Nat) : Int) := by
  have h := and63a (v / q) (Nat.lt_of_le_of_lt (Nat.div_le_self _ _) hv)
  rw [Int.natCast_ediv] at h
  exact h
theorem or2 (a b : Nat) (ha : a < 256) (hb : b < 256) : bits .or .u64 ((a : Int) * 65536) ((b : Int) * 256) = ((a * 65536 + b * 256 : Nat) : Int) := by
  have e1 : (a : Int) * 65536 = ((a * 65536 : Nat) : Int) := by omega
  have e2 : (b : Int) * 256 = ((b * 256 : Nat) : Int) := by omega
  rw [e1, e2, u64_or_nat _ _ (by omega) (by omega), nat_join 16 _ _ (by omega) (by omega)]
theorem info_enc64 : (Tryz.prog.info? 62).map (·.size) = some 64 := by kernel_rfl
/-- The symbols read as one value. -/
theorem run_ld64 (w : World) (b : Nat) (cs : List Value) (hl : cs.length = 64) (h : ∀ j v, cs[j]? = some v → w.cell? ⟨b, j, none⟩ = some v) : (loadVar 62 ⟨b, 0, none⟩).run Tryz.prog w = .ok (.agg cs.toArray) w := by
  have hld : (loadCells ⟨b, 0, none⟩ cs.length).run Tryz.prog w = .ok cs.toArray w := run_loadCells_list (P := Tryz.prog) w ⟨b, 0, none⟩ cs (fun j v hj => by
    have e : (⟨b, 0, none⟩ : Addr).add j = ⟨b, j, none⟩ := by rw [Lib.addr_add, Nat.zero_add]
    rw [e]
    exact h j v hj)
  have hu : Tryz.prog.underlying 62 = some (.array 64 5) := by kernel_rfl
  have hi := info_enc64
  cases hq : Tryz.prog.info? 62 with
  | none => simp [hq] at hi
  | some i =>
    have hs : i.size = 64 := by simpa [hq] using hi
    have hagg : (isAgg 62).run Tryz.prog w = .ok true w := by
      unfold isAgg
      rw [Sem.run_bind, run_underlying hu w]
      simp
    rw [hl] at hld
    simp [loadVar, Sem.run_bind, hagg, sizeOf, typeInfo, hq, hs, hld]
theorem wpList_ld64 {ops : Array Oper} {rest : List Oper} {o : Oper} {a : Act} {w : World} {Q : Exit → Act → World → Prop} (hgd : o.guard = none) (x : Operand) (ho : o.op = .load 62 x)
    (b : Nat) (hx : a.eval x = .pointer (some ⟨b, 0, none⟩)) (cs : List Value) (hr : (loadVar 62 ⟨b, 0, none⟩).run Tryz.prog w = .ok (.agg cs.toArray) w)
    (h : wpList Tryz.prog ops Q rest (a.put o.dst (.agg cs.toArray)) w) : wpList Tryz.prog ops Q (o :: rest) a w := by
  refine wpList_plain hgd fun K hK => ?_
  unfold Oper.wp execOp
  simp only [ho, hx, Instr.loadAt, Instr.sureAddr, Sem.run_bind, Sem.run_pure, Result.andThen_ok, hr]
  exact hK _ _ h
set_option maxRecDepth 100000 in
set_option maxHeartbeats 6400000 in
theorem encode_any (b g h n c : Nat) (al x : ByteArray) (w : World) (he : EncB al b w) (hal : al.size = 64) (hg : RowA g n [] w w) (hx : ∀ j (hj : j < x.size), w.cell? ⟨h, j, none⟩ = some (.int .u8 ((x[j]'hj).toNat : Int)))
    (hbg : b ≠ g) (hhg : h ≠ g) (hn : n = (x.size + 2) / 3 * 4) (hc : x.size ≤ c) (hxs : x.size ≤ 1048576) :
    Calls Tryz.prog 70 #[.pointer (some ⟨b, 0, none⟩), .slice (some ⟨g, 0, none⟩) n n, .slice (some ⟨h, 0, none⟩) x.size c] w fun e w' => e = .returned (.tuple #[]) ∧ RowA g n (b64 al x) w w' := by
  have HE := Lib.hid (show ∀ W, Touch [g] w W → (∀ i (hi : i < al.size), W.cell? ⟨b, i, none⟩ = some (.int .u8 ((al[i]'hi).toNat : Int))) ∧ W.cell? ⟨b, 320, none⟩ = some (.int .i32 61) from fun W ht => by
    obtain ⟨cur, h1, h2, h3, h4⟩ := he
    have h5 : W.heap[b]? = _ := (ht.block b (Lib.lt_of_heap h1) (by simpa using hbg)).trans h1
    exact ⟨fun i hi => by rw [Lib.cell_of_heap h5]; exact h4 i hi, by rw [Lib.cell_of_heap h5]; exact h3⟩)
  have HX := Lib.hid (show ∀ W, Touch [g] w W → ∀ j (hj : j < x.size), W.cell? ⟨h, j, none⟩ = some (.int .u8 ((x[j]'hj).toNat : Int)) from fun W ht j hj => by
    rw [ht.cell (p := ⟨h, j, none⟩) (World.block_lt_of_cell? _ _ (hx j hj)) (by simpa using hhg)]
    exact hx j hj)
  have HR := Lib.hid hg
  obtain ⟨cs, hcs⟩ : ∃ cs, cs = (List.range 64).map (fun i => Value.int .u8 ((al.get! i).toNat : Int)) := ⟨_, rfl⟩
  have HL := Lib.hid (run_ld64 w b cs (by rw [hcs]; simp) (fun j v hj => by
    rw [hcs] at hj
    have hj2 : j < 64 := by
      have := (List.getElem?_eq_some_iff.1 hj).1
      simpa using this
    rw [(HE.out w (Touch.refl _ _)).1 j (by omega)]
    simp [hj2] at hj
    rw [← hj, get!_at al j (by omega)]))
  clear hcs
  have HAL := Lib.hid hal
  have HY := Lib.hid (show ∀ W, Touch [g] w W → ∀ i, i < 64 → W.cell? ⟨b, i, none⟩ = some (.int .u8 ((al.get! i).toNat : Int)) from fun W ht i hi => by
    rw [get!_at al i (by omega)]
    exact (HE.out W ht).1 i (by omega))
  have hbg' : g ≠ b := fun e => hbg e.symm
  clear he hg hx hal hhg
  by_cases hx0 : x.size = 0
  · have HB := Lib.hid (b64_nil al x hx0)
    have hx1 : ((x.size : Int) == 0) = true := by rw [hx0]; rfl
    go_enter Tryz.func70, Tryz.ntmps70
    go_wp2
    refine bodyPost_ret (results_none rfl _ _ _) rfl ?_
    exact ⟨rfl, by rw [HB.out]; exact HR.out⟩
  · have hx1 : ¬ ((x.size : Int) = 0) := by omega
    go_enter Tryz.func70, Tryz.ntmps70
    go_wp2_with (refine wpList_ld64 rfl _ rfl b rfl cs HL.out ?_)
    go_simp
    go_loopw [1, 2] (fun ds sr wr => ∃ (k o1 o2 dn sn sc : Nat), 4 * k + dn = n ∧ 3 * k + sn = x.size ∧ 3 * k + sc = c ∧ (0 < dn → o1 = 4 * k) ∧ (0 < sc → o2 = 3 * k) ∧ ds = .slice (some ⟨g, o1, none⟩) dn dn ∧ sr = .slice (some ⟨h, o2, none⟩) sn sc ∧ Hid (RowA g n (b64k al x k) w wr)) (fun _ sr _ => match sr with | .slice _ n _ => n | _ => 0)
    case atStart => exact ⟨0, 0, 0, n, x.size, c, by omega, by omega, by omega, fun _ => rfl, fun _ => rfl, by first | rfl | simp [hn], by first | rfl | simp, HR⟩
    case round =>
      obtain ⟨k, o1, o2, dn, sn, sc, e1, e2, e3, p1, p2, rfl, rfl, HO⟩ := hrel
      clear HR
      by_cases h3 : 3 ≤ sn
      · obtain ⟨sn, rfl⟩ : ∃ t, sn = t + 3 := ⟨sn - 3, by omega⟩
        obtain ⟨sc, rfl⟩ : ∃ t, sc = t + 3 := ⟨sc - 3, by omega⟩
        obtain ⟨dn, rfl⟩ : ∃ t, dn = t + 4 := ⟨dn - 4, by omega⟩
        obtain rfl := p1 (by omega)
        obtain rfl := p2 (by omega)
        clear p1 p2
        have hx0 := HX.out _ HO.out.2 (3 * k) (by omega)
        have hx1 := HX.out _ HO.out.2 (3 * k + 1) (by omega)
        have hx2 := HX.out _ HO.out.2 (3 * k + 2) (by omega)
        have HV := Lib.hid (show v3 x k = (x[3 * k]'(by omega)).toNat * 65536 + (x[3 * k + 1]'(by omega)).toNat * 256 + (x[3 * k + 2]'(by omega)).toNat from by
          unfold v3
          rw [get!_at x _ (by omega), get!_at x _ (by omega), get!_at x _ (by omega)])
        have b0 := (x[3 * k]'(by omega)).toNat_lt
        have b1 := (x[3 * k + 1]'(by omega)).toNat_lt
        have b2 := (x[3 * k + 2]'(by omega)).toNat_lt
        generalize (x[3 * k]'(by omega)).toNat = x0 at HV hx0 b0
        generalize (x[3 * k + 1]'(by omega)).toNat = x1 at HV hx1 b1
        generalize (x[3 * k + 2]'(by omega)).toNat = x2 at HV hx2 b2
        obtain ⟨v, hv⟩ : ∃ v, v = x0 * 65536 + x1 * 256 + x2 := ⟨_, rfl⟩
        have hor := or3 x0 x1 x2 b0 b1 b2
        rw [← hv] at hor HV
        have vb : v < 16777216 := by omega
        clear hv
        obtain ⟨ia, hia⟩ : ∃ i, i = v / 262144 % 64 := ⟨_, rfl⟩
        obtain ⟨ya, hya⟩ : ∃ y, y = al.get! ia := ⟨_, rfl⟩
        have handa : bits .and .u64 ((v : Int) / 262144) 63 = (ia : Int) := by rw [hia]; have h := and63 v 262144 vb; exact h
        have hba : ia < 64 := by omega
        obtain ⟨ib, hib⟩ : ∃ i, i = v / 4096 % 64 := ⟨_, rfl⟩
        obtain ⟨yb, hyb⟩ : ∃ y, y = al.get! ib := ⟨_, rfl⟩
        have handb : bits .and .u64 ((v : Int) / 4096) 63 = (ib : Int) := by rw [hib]; exact and63 v 4096 vb
        have hbb : ib < 64 := by omega
        obtain ⟨ic, hic⟩ : ∃ i, i = v / 64 % 64 := ⟨_, rfl⟩
        obtain ⟨yc, hyc⟩ : ∃ y, y = al.get! ic := ⟨_, rfl⟩
        have handc : bits .and .u64 ((v : Int) / 64) 63 = (ic : Int) := by rw [hic]; exact and63 v 64 vb
        have hbc : ic < 64 := by omega
        obtain ⟨id, hid⟩ : ∃ i, i = v % 64 := ⟨_, rfl⟩
        obtain ⟨yd, hyd⟩ : ∃ y, y = al.get! id := ⟨_, rfl⟩
        have handd : bits .and .u64 (v : Int) 63 = (id : Int) := by rw [hid]; exact and63a v vb
        have hbd : id < 64 := by omega
        have HQ := Lib.hid (show b64k al x (k + 1) = (((b64k al x k ++ [ya]) ++ [yb]) ++ [yc]) ++ [yd] from by
          rw [b64k, HV.out, hya, hyb, hyc, hyd, hia, hib, hic, hid]
          simp [q4])
        clear hia hib hic hid HV
        go_wp2
        go_quiet (fail)
        refine at_end (fun W => RowA g n (b64k al x k) w W) (rowA_drewN HO.out _) ?_
        intro W0 h0
        have HO0 := Lib.hid h0
        clear h0 HO hx0 hx1 hx2
        obtain ⟨v3, hc3, hf3⟩ := rowA_cell HO0.out (4 * k + 3) (by omega)
        obtain ⟨ca, hca, hfa⟩ := rowA_cell HO0.out (4 * k) (by omega)
        obtain ⟨cb, hcb, hfb⟩ := rowA_cell HO0.out (4 * k + 1) (by omega)
        obtain ⟨cc, hcc, hfc⟩ := rowA_cell HO0.out (4 * k + 2) (by omega)
        have hea := HY.out _ HO0.out.2 ia (by omega)
        rw [← hya] at hea
        have heb := HY.out _ HO0.out.2 ib (by omega)
        rw [← hyb] at heb
        have hec := HY.out _ HO0.out.2 ic (by omega)
        rw [← hyc] at hec
        have hed := HY.out _ HO0.out.2 id (by omega)
        rw [← hyd] at hed
        clear hya hyb hyc hyd
        go_wp2
        refine ⟨⟨k + 1, if dn = 0 then 4 * k else 4 * k + 4, if sc = 0 then 3 * k else 3 * k + 3, dn, sn, sc, by omega, by omega, by omega, fun h => by rw [if_neg (by omega)]; omega, fun h => by rw [if_neg (by omega)]; omega, ?_, ?_, Lib.hid ?_⟩, ?_⟩
        · by_cases e : dn = 0 <;> simp [e]
        · by_cases e : sc = 0 <;> simp [e]
        · rw [HQ.out]
          have z1 := rowA_put HO0.out ya (4 * k) _ (by simp [b64k_len]) rfl (by simp [b64k_len]; omega)
          have z2 := rowA_put z1 yb (4 * k + 1) _ (by simp [b64k_len]) rfl (by simp [b64k_len]; omega)
          have z3 := rowA_put z2 yc (4 * k + 2) _ (by simp [b64k_len]) rfl (by simp [b64k_len]; omega)
          exact rowA_put z3 yd (4 * k + 3) _ (by simp [b64k_len]) rfl (by simp [b64k_len]; omega)
        · simp
      · have hq : k = x.size / 3 := by omega
        have hm : sn = x.size % 3 := by omega
        by_cases m0 : sn = 0
        · subst m0
          have HT := Lib.hid (show b64 al x = b64k al x k from by
            unfold b64 b64t
            rw [if_neg (by omega), if_neg (by omega), List.append_nil, hq])
          go_wp2
          refine bodyPost_ret (results_none rfl _ _ _) rfl ?_
          exact ⟨rfl, by rw [HT.out]; exact HO.out⟩
        by_cases m1 : sn = 1
        · subst m1
          have hdn : dn = 4 := by omega
          subst hdn
          obtain rfl := p1 (by omega)
          obtain rfl := p2 (by omega)
          have hx0 := HX.out _ HO.out.2 (3 * k) (by omega)
          have b0 := (x[3 * k]'(by omega)).toNat_lt
          have HV := Lib.hid (show ∀ v, v = (x[3 * k]'(by omega)).toNat * 65536 → b64 al x = ((((b64k al x k ++ [al.get! (v / 262144 % 64)]) ++ [al.get! (v / 4096 % 64)]) ++ [61]) ++ [61]) from by
            intro v hv
            unfold b64 b64t
            rw [if_pos (by omega), ← hq, show x.size - 1 = 3 * k from by omega, get!_at x _ (by omega), hv]
            simp [q4])
          generalize (x[3 * k]'(by omega)).toNat = x0 at HV hx0 b0
          obtain ⟨v, hv⟩ : ∃ v, v = x0 * 65536 := ⟨_, rfl⟩
          have vb : v < 16777216 := by omega
          have HV2 := Lib.hid (HV.out v hv)
          clear HV
          obtain ⟨ia, hia⟩ : ∃ i, i = v / 262144 % 64 := ⟨_, rfl⟩
          have handa : bits .and .u64 ((x0 : Int) * 65536 / 262144) 63 = (ia : Int) := by
            have h := and63 v 262144 vb
            rw [hia]
            rw [hv, Int.natCast_mul] at h
            rw [hv]
            exact h
          have hba : ia < 64 := by omega
          obtain ⟨ya, hya⟩ : ∃ y, y = al.get! ia := ⟨_, rfl⟩
          rw [← hia, ← hya] at HV2
          have heya := Lib.hid (show ∀ W, Touch [g] w W → W.cell? ⟨b, ia, none⟩ = some (.int .u8 (ya.toNat : Int)) from fun W ht => by rw [hya]; exact HY.out W ht ia hba)
          clear hya hia
          obtain ⟨ib, hib⟩ : ∃ i, i = v / 4096 % 64 := ⟨_, rfl⟩
          have handb : bits .and .u64 ((x0 : Int) * 65536 / 4096) 63 = (ib : Int) := by
            have h := and63 v 4096 vb
            rw [hib]
            rw [hv, Int.natCast_mul] at h
            rw [hv]
            exact h
          have hbb : ib < 64 := by omega
          obtain ⟨yb, hyb⟩ : ∃ y, y = al.get! ib := ⟨_, rfl⟩
          rw [← hib, ← hyb] at HV2
          have heyb := Lib.hid (show ∀ W, Touch [g] w W → W.cell? ⟨b, ib, none⟩ = some (.int .u8 (yb.toNat : Int)) from fun W ht => by rw [hyb]; exact HY.out W ht ib hbb)
          clear hyb hib
          clear hv hq hm m0 h3
          have hep := (HE.out _ HO.out.2).2
          have hea := heya.out _ HO.out.2
          have heb := heyb.out _ HO.out.2
          obtain ⟨ca, hca, hfa⟩ := rowA_cell HO.out (4 * k) (by omega)
          obtain ⟨cb, hcb, hfb⟩ := rowA_cell HO.out (4 * k + 1) (by omega)
          obtain ⟨cc, hcc, hfc⟩ := rowA_cell HO.out (4 * k + 2) (by omega)
          obtain ⟨cd, hcd, hfd⟩ := rowA_cell HO.out (4 * k + 3) (by omega)
          go_wp2
          go_end0
          refine ⟨rfl, ?_⟩
          rw [HV2.out]
          try rw [← hn]
          have z0 := rowA_put HO.out ya (4 * k) _ (by simp [b64k_len]) rfl (by simp [b64k_len]; omega)
          have z1 := rowA_put z0 yb (4 * k + 1) _ (by simp [b64k_len]) rfl (by simp [b64k_len]; omega)
          have z2 := rowA_put z1 61 (4 * k + 2) _ (by simp [b64k_len]) rfl (by simp [b64k_len]; omega)
          exact rowA_put z2 61 (4 * k + 3) _ (by simp [b64k_len]) rfl (by simp [b64k_len]; omega)
        · obtain rfl : sn = 2 := by omega
          have hdn : dn = 4 := by omega
          subst hdn
          obtain rfl := p1 (by omega)
          obtain rfl := p2 (by omega)
          have hx0 := HX.out _ HO.out.2 (3 * k) (by omega)
          have b0 := (x[3 * k]'(by omega)).toNat_lt
          have hx1 := HX.out _ HO.out.2 (3 * k + 1) (by omega)
          have b1 := (x[3 * k + 1]'(by omega)).toNat_lt
          have HV := Lib.hid (show ∀ v, v = (x[3 * k]'(by omega)).toNat * 65536 + (x[3 * k + 1]'(by omega)).toNat * 256 → b64 al x = ((((b64k al x k ++ [al.get! (v / 262144 % 64)]) ++ [al.get! (v / 4096 % 64)]) ++ [al.get! (v / 64 % 64)]) ++ [61]) from by
            intro v hv
            unfold b64 b64t
            rw [if_neg (by omega), if_pos (by omega), ← hq, show x.size - 2 = 3 * k from by omega, show x.size - 1 = 3 * k + 1 from by omega, get!_at x _ (by omega), get!_at x _ (by omega), hv]
            simp [q4])
          generalize (x[3 * k]'(by omega)).toNat = x0 at HV hx0 b0
          generalize (x[3 * k + 1]'(by omega)).toNat = x1 at HV hx1 b1
          have hor := or2 x0 x1 b0 b1
          obtain ⟨v, hv⟩ : ∃ v, v = x0 * 65536 + x1 * 256 := ⟨_, rfl⟩
          have vb : v < 16777216 := by omega
          have HV2 := Lib.hid (HV.out v hv)
          clear HV
          rw [← hv] at hor
          obtain ⟨ia, hia⟩ : ∃ i, i = v / 262144 % 64 := ⟨_, rfl⟩
          have handa : bits .and .u64 ((v : Int) / 262144) 63 = (ia : Int) := by
            have h := and63 v 262144 vb
            rw [hia]
            exact h
          have hba : ia < 64 := by omega
          obtain ⟨ya, hya⟩ : ∃ y, y = al.get! ia := ⟨_, rfl⟩
          rw [← hia, ← hya] at HV2
          have heya := Lib.hid (show ∀ W, Touch [g] w W → W.cell? ⟨b, ia, none⟩ = some (.int .u8 (ya.toNat : Int)) from fun W ht => by rw [hya]; exact HY.out W ht ia hba)
          clear hya hia
          obtain ⟨ib, hib⟩ : ∃ i, i = v / 4096 % 64 := ⟨_, rfl⟩
          have handb : bits .and .u64 ((v : Int) / 4096) 63 = (ib : Int) := by
            have h := and63 v 4096 vb
            rw [hib]
            exact h
          have hbb : ib < 64 := by omega
          obtain ⟨yb, hyb⟩ : ∃ y, y = al.get! ib := ⟨_, rfl⟩
          rw [← hib, ← hyb] at HV2
          have heyb := Lib.hid (show ∀ W, Touch [g] w W → W.cell? ⟨b, ib, none⟩ = some (.int .u8 (yb.toNat : Int)) from fun W ht => by rw [hyb]; exact HY.out W ht ib hbb)
          clear hyb hib
          obtain ⟨ic, hic⟩ : ∃ i, i = v / 64 % 64 := ⟨_, rfl⟩
          have handc : bits .and .u64 ((v : Int) / 64) 63 = (ic : Int) := by
            have h := and63 v 64 vb
            rw [hic]
            exact h
          have hbc : ic < 64 := by omega
          obtain ⟨yc, hyc⟩ : ∃ y, y = al.get! ic := ⟨_, rfl⟩
          rw [← hic, ← hyc] at HV2
          have heyc := Lib.hid (show ∀ W, Touch [g] w W → W.cell? ⟨b, ic, none⟩ = some (.int .u8 (yc.toNat : Int)) from fun W ht => by rw [hyc]; exact HY.out W ht ic hbc)
          clear hyc hic
          clear hv hq hm m0 h3 m1
          go_wp2
          go_quiet (fail)
          refine at_end (fun W => RowA g n (b64k al x k) w W) (rowA_drewN HO.out _) ?_
          intro W0 h0
          have HO0 := Lib.hid h0
          clear h0 HO hx0 hx1
          have hep := (HE.out _ HO0.out.2).2
          have hea := heya.out _ HO0.out.2
          have heb := heyb.out _ HO0.out.2
          have hec := heyc.out _ HO0.out.2
          obtain ⟨ca, hca, hfa⟩ := rowA_cell HO0.out (4 * k) (by omega)
          obtain ⟨cb, hcb, hfb⟩ := rowA_cell HO0.out (4 * k + 1) (by omega)
          obtain ⟨cc, hcc, hfc⟩ := rowA_cell HO0.out (4 * k + 2) (by omega)
          obtain ⟨cd, hcd, hfd⟩ := rowA_cell HO0.out (4 * k + 3) (by omega)
          go_wp2
          go_end0
          refine ⟨rfl, ?_⟩
          rw [HV2.out]
          try rw [← hn]
          have z0 := rowA_put HO0.out ya (4 * k) _ (by simp [b64k_len]) rfl (by simp [b64k_len]; omega)
          have z1 := rowA_put z0 yb (4 * k + 1) _ (by simp [b64k_len]) rfl (by simp [b64k_len]; omega)
          have z2 := rowA_put z1 yc (4 * k + 2) _ (by simp [b64k_len]) rfl (by simp [b64k_len]; omega)
          exact rowA_put z2 61 (4 * k + 3) _ (by simp [b64k_len]) rfl (by simp [b64k_len]; omega)
end Go.Proofs.YtlhndkonhjjcgaaGreatFmt
