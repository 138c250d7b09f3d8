/- An int's numeral, appended in place to the encoder's buffer. Conditions: there is room. -/
import Derived.Test.YtdkccihoecpcaaaGreatFmtApp
import Derived.Test.YtdkccihoecpcaaaGreatFmtShelf
import Derived.Lib.ItoaLen
import Derived.Deep.RegionHeld3
namespace Go.Proofs.YtdkccihoecpcaaaGreatFmt
open Go.RowKit Go.Sort Go
/-- The table of powers of ten lies below B. -/
def Tab (B : Nat) (w : World) : Prop := Lib.TabIs Tryz.prog w "internal/strconv.uint64pow10" .u64 Lib.pow10Tab ∧ ∃ g, Tryz.prog.globalNamed "internal/strconv.uint64pow10" = some g ∧ g < B ∧ B ≤ w.heap.size
theorem tab_touch {B : Nat} {S : List Nat} {w w' : World} (h : Tab B w) (ht : Touch S w w') (hs : ∀ x, x ∈ S → B ≤ x) : Tab B w' := by
  obtain ⟨h1, g, hg, hgB, hBw⟩ := h
  refine ⟨?_, g, hg, hgB, Nat.le_trans hBw ht.size⟩
  unfold Lib.TabIs World.var? at h1 ⊢
  rw [hg] at h1 ⊢
  simp only [Option.bind_some] at h1 ⊢
  rw [ht.block g (by omega) (fun m => by have := hs g m; omega)]
  exact h1
/-- What stands behind an appended numeral. -/
def Appended (w : World) (eb n : Nat) (cur : Array Value) (l : List UInt8) (e : Ending) (w' : World) : Prop :=
  e = .returned (.slice (some ⟨eb, 1, none⟩) (n + l.length) 64) ∧ w'.heap[eb]? = some (.cells (putAt cur (1 + n) (Lib.byteCells l)) 66 (0, 0)) ∧ Touch [eb] w w'
theorem dd_len (u : Nat) (hu : u < 18446744073709551616) : (Lib.decDigits u).length ≤ 20 := by rw [Lib.decDigits_length]; exact Lib.nDigits_le20 u hu
theorem dd_size (u : Nat) : (⟨(Lib.decDigits u).toArray⟩ : ByteArray).size = (Lib.decDigits u).length := by simp [ByteArray.size]
set_option maxRecDepth 100000 in
set_option maxHeartbeats 1600000 in
theorem appUint_small (w : World) (eb n u : Nat) (cur : Array Value) (hn : n ≤ 40) (hu : u < 100) (hc : cur.size = 65) (hg : w.heap[eb]? = some (.cells cur 66 (0, 0))) :
    Calls Tryz.prog 64 #[.slice (some ⟨eb, 1, none⟩) n 64, .int .u64 u, .int .i64 10] w (Appended w eb n cur (Lib.decDigits u)) := by
  obtain ⟨i, hi, hz⟩ := info_u8
  have hl := dd_len u (by omega)
  have hs := dd_size u
  have hap := fun ty => run_append_at_string (P := Tryz.prog) w 29 9 ty 5 66 i Tryz.underlying29 Tryz.underlying9 hi hz eb 1 n 64 cur hg ⟨(Lib.decDigits u).toArray⟩ (by omega) (by omega)
  have hsc : Lib.strCells ⟨(Lib.decDigits u).toArray⟩ = Lib.byteCells (Lib.decDigits u) := by simp [Lib.strCells, Lib.byteCells]
  rw [hs, hsc] at hap
  have HG := Lib.hid (show (w.setRow eb (putAt cur (1 + n) (Lib.byteCells (Lib.decDigits u)))).heap[eb]? = _ from setRow_heap w eb cur _ 66 (0, 0) hg)
  have HT := Lib.hid ((Touch.refl [eb] w).setRow eb (.inl (by simp)) (putAt cur (1 + n) (Lib.byteCells (Lib.decDigits u))))
  clear hg hi hz
  go_enter Tryz.func64, Tryz.ntmps64
  go_wp2_with (first
    | (go_at_call 84; refine (Tryz.internal_strconv_small u hu _).mono ?_; rintro e w' ⟨rfl, rfl⟩)
    | (at_builtin; refine wpList_app rfl _ _ 29 9 rfl rfl rfl (hap _) ?_))
  go_ret
  exact ⟨rfl, HG.out, HT.out⟩
set_option maxRecDepth 100000 in
set_option maxHeartbeats 3200000 in
theorem appUint_big (w : World) (eb n u : Nat) (cur : Array Value) (hn : n ≤ 40) (hu : 100 ≤ u) (h64 : u < 18446744073709551616) (hc : cur.size = 65) (hg : w.heap[eb]? = some (.cells cur 66 (0, 0))) (B : Nat) (_hB : B ≤ eb) (htab : Tab B w) :
    Calls Tryz.prog 64 #[.slice (some ⟨eb, 1, none⟩) n 64, .int .u64 u, .int .i64 10] w (Appended w eb n cur (Lib.decDigits u)) := by
  obtain ⟨i, hi, hz⟩ := info_u8
  have hl := dd_len u h64
  have hnd : (Lib.decDigits u).length = Lib.nDigits u := Lib.decDigits_length u
  have hu1 : 1 ≤ u := by omega
  have heb : eb < w.heap.size := Lib.lt_of_heap hg
  have hal : Tryz.prog.arrayLen 55 = 24 := by kernel_rfl
  have hsl : ∀ W, (Instr.sliceAt 55 (.pointer (some ⟨w.heap.size, 0, none⟩)) none (some (.int .i64 (Lib.nDigits u : Int))) none).run Tryz.prog W = .ok (.slice (some ⟨w.heap.size, 0, none⟩) (Lib.nDigits u) 24) W := fun W => by
    rw [run_sliceAt_array_h W 55 ⟨w.heap.size, 0, none⟩ (by kernel_rfl) .i64 (Lib.nDigits u : Int) (by omega) (by rw [hal]; omega)]
    have hsz : ∀ W, (sizeOf (Tryz.prog.elem 55)).run Tryz.prog W = .ok 1 W := fun W => by kernel_rfl
    rw [hal, hsz]
    simp [slicedAt, Result.andThen, Addr.add]
  have hH0 := Lib.holds_zero0 w 55 (Lib.nDigits u) (by omega)
  have hfmt := Tryz.internal_strconv_formatBase10 w.heap.size 0 24 u (Array.replicate (Lib.nDigits u) 0) (w.alloc (.cells Lib.zeros24 55)) hH0 (by rw [Array.size_replicate]; exact Lib.lt_pow_nDigits u) h64 (by rw [Array.size_replicate]; omega)
  rw [Array.size_replicate] at hfmt
  have HH0 := Lib.hid hH0
  have HG := Lib.hid hg
  have HND := Lib.hid hnd
  have iu : (100 : Int) ≤ (u : Int) := by omega
  clear hH0 hal hg hnd
  go_enter Tryz.func64, Tryz.ntmps64
  go_wp2_with (go_at_call 85; refine (Tryz.internal_strconv_numDigits u hu1 h64 _ (Lib.tabIs_alloc htab.1 _)).mono ?_; rintro e w' ⟨rfl, rfl⟩)
  go_at_call 86
  refine hfmt.mono ?_
  rintro e w' ⟨rfl, k, v', dk, rfl, hF⟩
  have hnd := HND.out
  have hcells : ∀ j u', (Lib.byteCells (Lib.decDigits u))[j]? = some u' → ((putRow (fun (b : UInt8) => Value.int .u8 (b.toNat : Int)) (w.alloc (.cells Lib.zeros24 55)) w.heap.size 0 dk).drewN k).cell? ((⟨w.heap.size, 0, none⟩ : Addr).add j) = some u' := by
    intro j u' hj
    have hjl : j < (Lib.decDigits u).length := by
      have h5 := (List.getElem?_eq_some_iff.1 hj).1
      rwa [Lib.byteCells_length] at h5
    have e5 : (Lib.byteCells (Lib.decDigits u))[j]? = some (Value.int .u8 ((Lib.decDigits u)[j].toNat : Int)) := by simp [Lib.byteCells, hjl]
    rw [e5] at hj
    cases hj
    rw [Lib.row_is_numeral hF j hjl, Lib.add_plain, World.cell?_drewN]
    exact cell?_putRow (fun (b : UInt8) => Value.int .u8 (b.toNat : Int)) _ w.heap.size 0 _ dk HH0.out (by rw [hF.size, Array.size_replicate]) j (by rw [hF.size]; omega)
  obtain ⟨os, eo⟩ := Lib.fin_at w (.cells Lib.zeros24 55) dk k 0
  have hb2 : Below w.heap.size w ((putRow (fun (b : UInt8) => Value.int .u8 (b.toNat : Int)) (w.alloc (.cells Lib.zeros24 55)) w.heap.size 0 dk).drewN k) := by rw [eo]; exact Lib.below_grow _ w (Nat.le_refl _) k os
  generalize (putRow (fun (b : UInt8) => Value.int .u8 (b.toNat : Int)) (w.alloc (.cells Lib.zeros24 55)) w.heap.size 0 dk).drewN k = W2 at hcells hb2 ⊢
  have hg2 : W2.heap[eb]? = some (.cells cur 66 (0, 0)) := (hb2.block eb heb).trans HG.out
  have hap := fun ty => run_append_at (P := Tryz.prog) W2 29 ty 5 66 i Tryz.underlying29 hi hz eb 1 n 64 cur hg2 ⟨w.heap.size, 0, none⟩ (Lib.nDigits u) 24 (Lib.byteCells (Lib.decDigits u)) (by rw [Lib.byteCells_length, hnd]) hcells (Lib.byteCells_one _) (by omega) (by omega)
  have HG2 := Lib.hid (show (W2.setRow eb (putAt cur (1 + n) (Lib.byteCells (Lib.decDigits u)))).heap[eb]? = _ from setRow_heap W2 eb cur _ 66 (0, 0) hg2)
  have HT := Lib.hid (((Touch.of_below hb2).mono (by simp)).trans ((Touch.refl [eb] W2).setRow eb (.inl (by simp)) (putAt cur (1 + n) (Lib.byteCells (Lib.decDigits u)))))
  clear eo HH0 hfmt hg2 hb2 hnd
  go_wp2_with (at_builtin; refine wpList_app rfl _ _ 29 29 rfl rfl rfl (hap _) ?_)
  go_ret
  exact ⟨by rw [HND.out]; rfl, HG2.out, HT.out⟩
theorem appUint (w : World) (eb n u : Nat) (cur : Array Value) (hn : n ≤ 40) (h64 : u < 18446744073709551616) (hc : cur.size = 65) (hg : w.heap[eb]? = some (.cells cur 66 (0, 0))) (B : Nat) (hB : B ≤ eb) (htab : Tab B w) :
    Calls Tryz.prog 64 #[.slice (some ⟨eb, 1, none⟩) n 64, .int .u64 u, .int .i64 10] w (Appended w eb n cur (Lib.decDigits u)) := by
  by_cases h : u < 100
  · exact appUint_small w eb n u cur hn h hc hg
  · exact appUint_big w eb n u cur hn (by omega) h64 hc hg B hB htab
theorem putAt_putAt (cur : Array Value) (o : Nat) (a b : List Value) (h : o + a.length ≤ cur.size) : putAt (putAt cur o a) (o + a.length) b = putAt cur o (a ++ b) := by
  have e : (cur.toList.take o ++ a).length = o + a.length := by simp; omega
  apply Array.ext'
  simp only [putAt]
  rw [List.take_left' e, ← List.drop_drop, List.drop_left' e, List.drop_drop, List.length_append, List.append_assoc, List.append_assoc, List.append_assoc, Nat.add_assoc, List.append_assoc]
set_option maxRecDepth 100000 in
set_option maxHeartbeats 1600000 in
theorem appInt (w : World) (eb : Nat) (v : Int) (cur : Array Value) (hv : -9223372036854775808 ≤ v ∧ v ≤ 9223372036854775807) (hc : cur.size = 65) (hg : w.heap[eb]? = some (.cells cur 66 (0, 0))) (B : Nat) (hB : B ≤ eb) (htab : Tab B w) :
    Calls Tryz.prog 52 #[.slice (some ⟨eb, 1, none⟩) 0 64, .int .i64 v, .int .i64 10] w (Appended w eb 0 cur (Lib.itoa v)) := by
  by_cases hneg : v < 0
  · obtain ⟨u, rfl⟩ : ∃ u : Nat, v = -(u : Int) := ⟨v.natAbs, by omega⟩
    have hu1 : 1 ≤ u := by omega
    have hu64 : u < 18446744073709551616 := by omega
    have hwr : IntKind.u64.wrap (-IntKind.u64.wrap (-(u : Int))) = (u : Int) := by rw [IntKind.wrap_u64, IntKind.wrap_u64]; omega
    rw [Lib.itoa_neg u hu1]
    obtain ⟨i, hi, hz⟩ := info_u8
    have heb : eb < w.heap.size := Lib.lt_of_heap hg
    have hga : ∀ T, (w.alloc (.cells #[.int .u8 45] T)).heap[eb]? = some (.cells cur 66 (0, 0)) := fun T => (Below.heap_alloc _ _ _ heb).trans hg
    have hap := fun T ty => run_append_at (P := Tryz.prog) (w.alloc (.cells #[.int .u8 45] T)) 29 ty 5 66 i Tryz.underlying29 hi hz eb 1 0 64 cur (hga T) ⟨w.heap.size, 0, none⟩ 1 1 [.int .u8 45] rfl (by intro j u' hj; match j, hj with | 0, hj => simp at hj; subst hj; simp [Addr.add]) (by intro u' hu'; simp at hu'; subst hu'; rfl) (by omega) (by omega)
    have HN := Lib.hid hneg
    clear hi hz hneg
    go_enter Tryz.func52, Tryz.ntmps52
    go_wp2_with (at_builtin; refine wpList_app rfl _ _ 29 29 rfl rfl rfl (hap _ _) ?_)
    generalize hw1 : (World.setRow _ _ _ : World) = w1
    have hg1 : w1.heap[eb]? = some (.cells (putAt cur 1 [.int .u8 45]) 66 (0, 0)) := by rw [← hw1]; exact setRow_heap _ eb cur _ _ _ (hga _)
    have ht1 : Touch [eb] w w1 := by rw [← hw1]; exact ((Touch.refl [eb] w).alloc _).setRow eb (.inl (by simp)) _
    have htab1 : Tab B w1 := tab_touch htab ht1 (by simp; exact hB)
    go_wp2_with (go_at_call 64; refine (appUint w1 eb 1 u (putAt cur 1 [.int .u8 45]) (by omega) hu64 (by rw [putAt_size _ _ _ (by simp; omega)]; exact hc) hg1 B hB htab1).mono ?_; rintro e w2 ⟨rfl, hg2, ht2⟩)
    go_wp2
    go_ret
    refine ⟨?_, ?_, ht1.trans ht2⟩
    · rw [List.length_cons, Nat.zero_add, Nat.add_comm (Lib.decDigits u).length 1]
      rfl
    · rw [hg2, show (1 + 1) = 1 + [Value.int .u8 45].length from rfl, putAt_putAt _ _ _ _ (by simp; omega)]
      rfl
  · obtain ⟨u, rfl⟩ : ∃ u : Nat, v = u := ⟨v.toNat, by omega⟩
    have hu64 : u < 18446744073709551616 := by omega
    rw [Lib.itoa_nonneg]
    have hwr : IntKind.u64.wrap (u : Int) = (u : Int) := by rw [IntKind.wrap_u64]; omega
    go_enter Tryz.func52, Tryz.ntmps52
    go_wp2_with (go_at_call 64; refine (appUint w eb 0 u cur (by omega) hu64 hc hg B hB htab).mono ?_; rintro e w2 ⟨rfl, hg2, ht2⟩)
    go_wp2
    go_ret
    exact ⟨by rw [Nat.zero_add]; rfl, hg2, ht2⟩
set_option maxRecDepth 100000 in
theorem appIntPublic (w : World) (eb : Nat) (v : Int) (cur : Array Value) (hv : -9223372036854775808 ≤ v ∧ v ≤ 9223372036854775807) (hc : cur.size = 65) (hg : w.heap[eb]? = some (.cells cur 66 (0, 0))) (B : Nat) (hB : B ≤ eb) (htab : Tab B w) :
    Calls Tryz.prog 41 #[.slice (some ⟨eb, 1, none⟩) 0 64, .int .i64 v, .int .i64 10] w (Appended w eb 0 cur (Lib.itoa v)) := by
  go_enter Tryz.func41, Tryz.ntmps41
  go_wp2_with (go_at_call 52; refine (appInt w eb v cur hv hc hg B hB htab).mono ?_; rintro e w2 ⟨rfl, hg2, ht2⟩)
  go_wp2
  go_ret
  exact ⟨by rw [Nat.zero_add]; rfl, hg2, ht2⟩
theorem run_buf0 (eb : Nat) (W : World) : (Instr.sliceAt 64 (.pointer (some ⟨eb, 1, none⟩)) none (some (.int .i64 0)) none).run Tryz.prog W = .ok (.slice (some ⟨eb, 1, none⟩) 0 64) W := by
  have hal : Tryz.prog.arrayLen 64 = 64 := by kernel_rfl
  rw [run_sliceAt_array_h W 64 ⟨eb, 1, none⟩ (by kernel_rfl) .i64 0 (by omega) (by rw [hal]; omega)]
  have hsz : ∀ W, (sizeOf (Tryz.prog.elem 64)).run Tryz.prog W = .ok 1 W := fun W => by kernel_rfl
  rw [hal, hsz]
  simp [slicedAt, Result.andThen, Addr.add]
end Go.Proofs.YtdkccihoecpcaaaGreatFmt
