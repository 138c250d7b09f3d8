/- The law's own base64, walked. Conditions: at most 1048576 bytes. -/
import Derived.Test.YtlhndkonhjjcgaaGreatFmtTs
import Derived.Laws.MakeOwn
import Derived.Deep.RegionLaw
import Derived.Laws.BytesArg
namespace Go.Proofs.YtlhndkonhjjcgaaGreatFmt
open Go.RowKit Go
theorem own_room' (w : World) (n : Nat) (hn : n ≤ 140737488355328) : Own w.heap.size (.slice (some ⟨w.heap.size, 0, none⟩) 0 n) [] (w.alloc (.cells (madeCells #[.int .u8 0] n) 5)) :=
  World.ownsRow_made w _ _ (Nat.le_refl _) (by unfold maxLen; omega) (by simp [madeCells])
theorem make_room' (w : World) (n : Nat) (hn : n ≤ 7000000) : (Instr.makeSlice 24 (.int .i64 0) (.int .i64 (n : Int))).run Tryz.prog w = .ok (.slice (some ⟨w.heap.size, 0, none⟩) 0 n) (w.alloc (.cells (madeCells #[.int .u8 0] n) 5)) := by
  obtain ⟨i0, hi, hz0, hz1, hz2⟩ := info_parts info_byte
  rw [run_make w 24 5 i0 (.int .u8 0) Tryz.underlying24 hi hz0 .i64 .i64 0 (n : Int) (by omega) (by omega) (by rw [hz2]; omega) (by omega)]
  rw [hz1, Int.toNat_natCast, Nat.mul_one]
  rfl
theorem step_app_bytes {ops : Array Oper} {o : Oper} {a : Act} {K : Act → World → Prop} {Q : Exit → Act → World → Prop} {E : Prop} (hgd : o.guard = none) (sl x : Operand)
    (ho : o.op = .call { callee := .builtin .append, args := #[sl, x], argTypes := #[24, 24 ] }) (B : Nat) (w : World) (v : Value) (l news : List UInt8) (cs : Array Value) (t : TypeId) (m : Nat) (b : Nat)
    (hcs : cs = (Lib.byteCells news).toArray) (hm : m = news.length) (hb : b = w.heap.size) (hown : Own B v l w) (hs : a.eval sl = v) (hx : a.eval x = .slice (some ⟨b, 0, none⟩) m m)
    (hB : B ≤ w.heap.size) (hlim : l.length + news.length ≤ 140737488355328)
    (h : ∀ v' w', Own B v' (l ++ news) w' → Below B w w' → K (a.put o.dst v') w') : if Region.wanted o (yielded ops a.tmps) = true then Oper.wp Tryz.prog o a (w.alloc (.cells cs t)) K Q else E := by
  have hw : Region.wanted o (yielded ops a.tmps) = true := by simp [Region.wanted, hgd]
  rw [if_pos hw]
  obtain ⟨i0, hi, hz0, hz1, hz2⟩ := info_parts info_byte
  subst hcs hm hb
  refine wp_append_own _ sl x 24 ho B 5 i0 (.int .u8 0) 1 1 Tryz.underlying24 hi hz0 hz1 hz2 rfl (by decide) v l.length (Lib.byteCells l) hs (World.ownsRow.alloc hown _) ⟨w.heap.size, 0, none⟩ news.length news.length (Lib.byteCells news) hx (by rw [bc_len, Nat.mul_one]) ?_ (Lib.byteCells_one _) (by unfold maxLen; omega) (by omega) (by simp; omega) ?_
  · intro j u hj
    rw [Lib.addr_add, Nat.zero_add, World.cell?_alloc_new]
    simpa using hj
  · intro v' w' hown' hgrow _
    refine h v' w' ?_ ?_
    · unfold Own
      rw [List.length_append, ← byteCells_app']
      exact hown'
    · exact ((Below.refl B w).alloc hB _).grown hgrow (by simp; omega) (fun k hk => (World.ownsRow.lt (World.ownsRow.alloc hown (.cells (Lib.byteCells news).toArray t)) k hk).1)
theorem own_string {B : Nat} {v : Value} {l : List UInt8} {W : World} (h : Own B v l W) : (convert 24 9 v).run Tryz.prog W = .ok (.string ⟨l.toArray⟩) W := by
  obtain ⟨ao, c, rfl⟩ := own_slice h
  rcases h.2 with ⟨hv, h0⟩ | ⟨g, cap, cur, hv, hB, hg, _, _, _, ht⟩
  · have e : l = [] := List.eq_nil_of_length_eq_zero h0
    subst e
    simp only [Value.slice.injEq] at hv
    obtain ⟨rfl, _, rfl⟩ := hv
    exact run_convert_bytes_nil (P := Tryz.prog) (w := W) 24 5 Tryz.underlying24 Tryz.underlying5 0 0 9 Tryz.underlying9
  · simp only [Value.slice.injEq] at hv
    obtain ⟨rfl, _, rfl⟩ := hv
    refine run_convert_bytes_back (P := Tryz.prog) W 24 9 5 ⟨g, 0, none⟩ _ l Tryz.underlying24 Tryz.underlying5 Tryz.underlying9 (fun j hj => ?_)
    rw [Lib.addr_add, Nat.zero_add, Lib.cell_of_heap hg, ← Array.getElem?_toList]
    have e : (cur.toList.take (l.length * 1))[j]? = (Lib.byteCells l)[j]? := by rw [ht]
    rw [List.getElem?_take, if_pos (by omega)] at e
    rw [e]
    simp [Lib.byteCells, hj]
set_option maxRecDepth 100000 in
set_option maxHeartbeats 6400000 in
theorem zzEnc (x : ByteArray) (hxs : x.size ≤ 1048576) (w : World) :
    Calls Tryz.prog 27 #[.string x] w fun e w' => e = .returned (.string ⟨(b64 alph x).toArray⟩) ∧ Below w.heap.size w w' := by
  have hn : ((x.size + 2) / 3 * 4 : Nat) ≤ 7000000 := by omega
  have hmk := make_room' w ((x.size + 2) / 3 * 4) hn
  have HOm := Lib.hid (own_room' w ((x.size + 2) / 3 * 4) (by omega))
  have HBm := Lib.hid (show Below w.heap.size w (w.alloc (.cells (madeCells #[.int .u8 0] ((x.size + 2) / 3 * 4)) 5)) from (Below.refl _ _).alloc (Nat.le_refl _) _)
  have hi : (((x.size + 2) / 3 * 4 : Nat) : Int) = ((x.size : Int) + 2) / 3 * 4 := by omega
  rw [hi] at hmk
  generalize (x.size + 2) / 3 * 4 = n at HOm HBm hmk hn hi
  go_enter Tryz.func27, Tryz.ntmps27
  go_wp2
  clear hmk hi
  go_loopw [3, 4] (fun out ix wr => ∃ (k q : Nat), q = 3 * k ∧ q ≤ x.size ∧ ix = .int .i64 (q : Int) ∧ Hid (Own w.heap.size out (b64k alph x k) wr ∧ Below w.heap.size w wr)) (fun _ ix _ => x.size - (intOf ix).toNat)
  case atStart => exact ⟨0, 0, rfl, Nat.zero_le _, rfl, Lib.hid ⟨HOm.out, HBm.out⟩⟩
  case round =>
    obtain ⟨k, q, hq, hk, rfl, HO⟩ := hrel
    clear HOm HBm
    have HQk := Lib.hid hq
    clear hq
    have HLk := Lib.hid (b64k_len alph x k)
    by_cases h3 : q + 3 ≤ x.size
    · have l0 : q < x.size := by omega
      have l1 : q + 1 < x.size := by omega
      have l2 : q + 2 < x.size := by omega
      have HV := Lib.hid (show v3 x k = (x[q]'l0).toNat * 65536 + (x[q + 1]'l1).toNat * 256 + (x[q + 2]'l2).toNat from by
        unfold v3
        rw [← HQk.out, get!_at x _ l0, get!_at x _ l1, get!_at x _ l2])
      have b0 := (x[q]'l0).toNat_lt
      have b1 := (x[q + 1]'l1).toNat_lt
      have b2 := (x[q + 2]'l2).toNat_lt
      have hor := or3 _ _ _ b0 b1 b2
      obtain ⟨v, hv⟩ : ∃ v, v = (x[q]'l0).toNat * 65536 + (x[q + 1]'l1).toNat * 256 + (x[q + 2]'l2).toNat := ⟨_, rfl⟩
      rw [← hv] at hor HV
      have vb : v < 16777216 := by omega
      clear hv
      obtain ⟨ia, hia⟩ : ∃ i, i = v / 262144 % 64 := ⟨_, rfl⟩
      have handa : bits .and .u64 ((v : Int) / 262144) 63 = (ia : Int) := by rw [hia]; have h := and63 v 262144 vb; exact h
      have hba : ia < 64 := by omega
      have hja : (ia : Int) < 64 := by omega
      have hga : alph.get! ia = alph[ia]'(by rw [alph_size]; exact hba) := get!_at alph ia (by rw [alph_size]; exact hba)
      obtain ⟨ib, hib⟩ : ∃ i, i = v / 4096 % 64 := ⟨_, rfl⟩
      have handb : bits .and .u64 ((v : Int) / 4096) 63 = (ib : Int) := by rw [hib]; have h := and63 v 4096 vb; exact h
      have hbb : ib < 64 := by omega
      have hjb : (ib : Int) < 64 := by omega
      have hgb : alph.get! ib = alph[ib]'(by rw [alph_size]; exact hbb) := get!_at alph ib (by rw [alph_size]; exact hbb)
      obtain ⟨ic, hic⟩ : ∃ i, i = v / 64 % 64 := ⟨_, rfl⟩
      have handc : bits .and .u64 ((v : Int) / 64) 63 = (ic : Int) := by rw [hic]; have h := and63 v 64 vb; exact h
      have hbc : ic < 64 := by omega
      have hjc : (ic : Int) < 64 := by omega
      have hgc : alph.get! ic = alph[ic]'(by rw [alph_size]; exact hbc) := get!_at alph ic (by rw [alph_size]; exact hbc)
      obtain ⟨id, hid⟩ : ∃ i, i = v % 64 := ⟨_, rfl⟩
      have handd : bits .and .u64 (v : Int) 63 = (id : Int) := by rw [hid]; exact and63a v vb
      have hbd : id < 64 := by omega
      have hjd : (id : Int) < 64 := by omega
      have hgd : alph.get! id = alph[id]'(by rw [alph_size]; exact hbd) := get!_at alph id (by rw [alph_size]; exact hbd)
      have HQ := Lib.hid (show b64k alph x (k + 1) = b64k alph x k ++ [alph[ia]'(by rw [alph_size]; exact hba), alph[ib]'(by rw [alph_size]; exact hbb), alph[ic]'(by rw [alph_size]; exact hbc), alph[id]'(by rw [alph_size]; exact hbd)] from by
        rw [b64k, HV.out, ← hga, ← hgb, ← hgc, ← hgd, hia, hib, hic, hid]
        simp [q4])
      clear hia hib hic hid HV hga hgb hgc hgd
      have j0 : (q : Int) < (x.size : Int) := by omega
      have j1 : (q : Int) + 1 < (x.size : Int) := by omega
      have j2 : (q : Int) + 2 < (x.size : Int) := by omega
      have t1 : ((q : Int) + 1).toNat = q + 1 := by omega
      have t2 : ((q : Int) + 2).toNat = q + 2 := by omega
      have p1 : (0 : Int) ≤ (q : Int) + 1 := by omega
      have p2 : (0 : Int) ≤ (q : Int) + 2 := by omega
      go_wp2
      go_quiet (fail)
      refine at_end (fun W => Own w.heap.size _ (b64k alph x k) W ∧ Below w.heap.size w W) ⟨own_drewN HO.out.1 _, HO.out.2.trans ⟨rfl, rfl, rfl, Nat.le_refl _, fun _ _ => rfl⟩⟩ ?_
      intro W0 h0
      have HO0 := Lib.hid h0
      have HLm := Lib.hid (show (b64k alph x k).length + 4 ≤ 140737488355328 from by rw [HLk.out]; have := HQk.out; omega)
      clear h0 HO hor
      go_wp2
      go_region_law (refine step_app_bytes rfl _ _ rfl w.heap.size _ _ (b64k alph x k) [alph[ia], alph[ib], alph[ic], alph[id]] _ _ 4 _ rfl rfl rfl (own_drewN HO0.out.1 1) rfl rfl HO0.out.2.size HLm.out ?_; intro v' w' hown hbel)
      all_goals (
        have HO1 := Lib.hid (show Own w.heap.size _ (b64k alph x (k + 1)) _ ∧ Below w.heap.size w _ from ⟨by rw [HQ.out]; exact hown, (show Below w.heap.size w (W0.drewN 1) from HO0.out.2.trans ⟨rfl, rfl, rfl, Nat.le_refl _, fun _ _ => rfl⟩).trans hbel⟩)
        clear hown hbel
        go_wp2
        refine ⟨⟨k + 1, q + 3, by have := HQk.out; omega, by omega, by go_num, HO1⟩, ?_⟩
        simp [intOf]
        omega)
    · have hkq : k = x.size / 3 := by have := HQk.out; omega
      by_cases m0 : q = x.size
      · subst m0
        have HT := Lib.hid (show b64 alph x = b64k alph x k from by
          have := HQk.out
          unfold b64 b64t
          rw [if_neg (by omega), if_neg (by omega), List.append_nil, hkq])
        have hcv := own_string HO.out.1
        clear hkq h3
        go_wp2
        go_ret
        exact ⟨by rw [HT.out]; rfl, HO.out.2⟩
      by_cases m1 : q + 1 = x.size
      · skip
        have l0 : q < x.size := by omega
        obtain ⟨v, hv⟩ : ∃ v, v = (x[q]'l0).toNat * 65536 := ⟨_, rfl⟩
        have b0 := (x[q]'l0).toNat_lt
        have vb : v < 16777216 := by omega
        have HV := Lib.hid (show b64 alph x = b64k alph x k ++ [alph.get! (v / 262144 % 64), alph.get! (v / 4096 % 64), 61, 61] from by
          have hq := HQk.out
          unfold b64 b64t
          rw [if_pos (by omega), ← hkq, show x.size - 1 = q from by omega, get!_at x _ l0, ← hv]
          simp [q4])
        obtain ⟨ia, hia⟩ : ∃ i, i = v / 262144 % 64 := ⟨_, rfl⟩
        have handa : bits .and .u64 (((x[q]'l0).toNat : Int) * 65536 / 262144) 63 = (ia : Int) := by
          have h := and63 v 262144 vb
          rw [hia]
          rw [hv, Int.natCast_mul] at h
          rw [hv]
          exact h
        have hba : ia < 64 := by omega
        have hja : (ia : Int) < 64 := by omega
        have hga : alph.get! ia = alph[ia]'(by rw [alph_size]; exact hba) := get!_at alph ia (by rw [alph_size]; exact hba)
        obtain ⟨ib, hib⟩ : ∃ i, i = v / 4096 % 64 := ⟨_, rfl⟩
        have handb : bits .and .u64 (((x[q]'l0).toNat : Int) * 65536 / 4096) 63 = (ib : Int) := by
          have h := and63 v 4096 vb
          rw [hib]
          rw [hv, Int.natCast_mul] at h
          rw [hv]
          exact h
        have hbb : ib < 64 := by omega
        have hjb : (ib : Int) < 64 := by omega
        have hgb : alph.get! ib = alph[ib]'(by rw [alph_size]; exact hbb) := get!_at alph ib (by rw [alph_size]; exact hbb)
        rw [← hia, hga] at HV
        rw [← hib, hgb] at HV
        clear hkq h3 hv m0 hia hga hib hgb
        have j0 : (q : Int) < (x.size : Int) := by omega
        have hrem : (x.size : Int) - (q : Int) = 1 := by omega
        have HLm := Lib.hid (show (b64k alph x k).length + 4 ≤ 140737488355328 from by rw [HLk.out]; have := HQk.out; omega)
        go_wp2
        go_region_law (refine step_app_bytes rfl _ _ rfl w.heap.size _ _ (b64k alph x k) [alph[ia], alph[ib], 61, 61] _ _ 4 _ rfl rfl rfl (own_drewN HO.out.1 1) rfl rfl HO.out.2.size HLm.out ?_; intro v' w' hown hbel)
        all_goals (
          have HO1 := Lib.hid (show Own w.heap.size v' (b64 alph x) w' ∧ Below w.heap.size w w' from ⟨by rw [HV.out]; exact hown, (show Below w.heap.size w (wr.drewN 1) from HO.out.2.trans ⟨rfl, rfl, rfl, Nat.le_refl _, fun _ _ => rfl⟩).trans hbel⟩)
          have hcv := own_string HO1.out.1
          clear hown hbel
          go_wp2
          go_ret
          exact ⟨rfl, HO1.out.2⟩)
      · have hx2 : q + 2 = x.size := by omega
        have l0 : q < x.size := by omega
        have l1 : q + 1 < x.size := by omega
        obtain ⟨v, hv⟩ : ∃ v, v = (x[q]'l0).toNat * 65536 + (x[q + 1]'l1).toNat * 256 := ⟨_, rfl⟩
        have b0 := (x[q]'l0).toNat_lt
        have b1 := (x[q + 1]'l1).toNat_lt
        have hor := or2 _ _ b0 b1
        rw [← hv] at hor
        have vb : v < 16777216 := by omega
        have HV := Lib.hid (show b64 alph x = b64k alph x k ++ [alph.get! (v / 262144 % 64), alph.get! (v / 4096 % 64), alph.get! (v / 64 % 64), 61] from by
          have hq := HQk.out
          unfold b64 b64t
          rw [if_neg (by omega), if_pos (by omega), ← hkq, show x.size - 2 = q from by omega, show x.size - 1 = q + 1 from by omega, get!_at x _ l0, get!_at x _ l1, ← hv]
          simp [q4])
        obtain ⟨ia, hia⟩ : ∃ i, i = v / 262144 % 64 := ⟨_, rfl⟩
        have handa : bits .and .u64 ((v : Int) / 262144) 63 = (ia : Int) := by rw [hia]; have h := and63 v 262144 vb; exact h
        have hba : ia < 64 := by omega
        have hja : (ia : Int) < 64 := by omega
        have hga : alph.get! ia = alph[ia]'(by rw [alph_size]; exact hba) := get!_at alph ia (by rw [alph_size]; exact hba)
        obtain ⟨ib, hib⟩ : ∃ i, i = v / 4096 % 64 := ⟨_, rfl⟩
        have handb : bits .and .u64 ((v : Int) / 4096) 63 = (ib : Int) := by rw [hib]; have h := and63 v 4096 vb; exact h
        have hbb : ib < 64 := by omega
        have hjb : (ib : Int) < 64 := by omega
        have hgb : alph.get! ib = alph[ib]'(by rw [alph_size]; exact hbb) := get!_at alph ib (by rw [alph_size]; exact hbb)
        obtain ⟨ic, hic⟩ : ∃ i, i = v / 64 % 64 := ⟨_, rfl⟩
        have handc : bits .and .u64 ((v : Int) / 64) 63 = (ic : Int) := by rw [hic]; have h := and63 v 64 vb; exact h
        have hbc : ic < 64 := by omega
        have hjc : (ic : Int) < 64 := by omega
        have hgc : alph.get! ic = alph[ic]'(by rw [alph_size]; exact hbc) := get!_at alph ic (by rw [alph_size]; exact hbc)
        rw [← hia, hga] at HV
        rw [← hib, hgb] at HV
        rw [← hic, hgc] at HV
        clear hkq h3 hv m1 m0 hia hga hib hgb hic hgc
        have j0 : (q : Int) < (x.size : Int) := by omega
        have j1 : (q : Int) + 1 < (x.size : Int) := by omega
        have t1 : ((q : Int) + 1).toNat = q + 1 := by omega
        have p1 : (0 : Int) ≤ (q : Int) + 1 := by omega
        have hrem : (x.size : Int) - (q : Int) = 2 := by omega
        have HLm := Lib.hid (show (b64k alph x k).length + 4 ≤ 140737488355328 from by rw [HLk.out]; have := HQk.out; omega)
        go_wp2
        go_quiet (fail)
        refine at_end (fun W => Own w.heap.size _ (b64k alph x k) W ∧ Below w.heap.size w W) ⟨own_drewN HO.out.1 _, HO.out.2.trans ⟨rfl, rfl, rfl, Nat.le_refl _, fun _ _ => rfl⟩⟩ ?_
        intro W0 h0
        have HO0 := Lib.hid h0
        clear h0 HO hor
        go_wp2
        go_region_law (refine step_app_bytes rfl _ _ rfl w.heap.size _ _ (b64k alph x k) [alph[ia], alph[ib], alph[ic], 61] _ _ 4 _ rfl rfl rfl (own_drewN HO0.out.1 1) rfl rfl HO0.out.2.size HLm.out ?_; intro v' w' hown hbel)
        all_goals (
          have HO1 := Lib.hid (show Own w.heap.size v' (b64 alph x) w' ∧ Below w.heap.size w w' from ⟨by rw [HV.out]; exact hown, (show Below w.heap.size w (W0.drewN 1) from HO0.out.2.trans ⟨rfl, rfl, rfl, Nat.le_refl _, fun _ _ => rfl⟩).trans hbel⟩)
          have hcv := own_string HO1.out.1
          clear hown hbel
          go_wp2
          go_ret
          exact ⟨rfl, HO1.out.2⟩)
end Go.Proofs.YtlhndkonhjjcgaaGreatFmt
