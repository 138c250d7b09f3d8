/- The object with its keys in order: the law walked. Conditions: the tables lie as the row lists them. -/
import Derived.Test.YtdkccihoecpcaaaGreatFmtZzO
import Derived.Test.YtdkccihoecpcaaaGreatFmtInsP
import Derived.Test.YtdkccihoecpcaaaGreatFmtQuoG
import Derived.Test.YtdkccihoecpcaaaGreatFmtAppI
import Derived.WalkSpells
namespace Go.Proofs.YtdkccihoecpcaaaGreatFmt
open Go.RowKit Go
def LawPost (w : World) (e : Ending) (w' : World) : Prop := e = .returned (.bool true) ∧ Below w.heap.size w w'
set_option maxRecDepth 100000 in
set_option maxHeartbeats 1600000 in
theorem bytesO (ao : Option Addr) (cap : Nat) (ks : List ByteArray) (w : World) (hs : StrsArg w ao cap ks) (hm : ks.length ≤ 9223372036854775807) (hb : ∀ s ∈ ks, s.size ≤ 9223372036854775807) :
    Calls Tryz.prog 22 #[.slice ao ks.length cap] w fun e w' => ∃ r, e = .returned (.bool r) ∧ w' = w ∧ (r = true → ∀ k, k < ks.length → (gets ks k).size ≤ 1048576) := by
  have Hs := Lib.hid hs.at'
  have Hb := Lib.hid (show ∀ k, (gets ks k).size ≤ 9223372036854775807 from fun k => by
    unfold gets
    rw [List.getD_eq_getElem?_getD]
    cases e : ks[k]? with
    | none => simp
    | some y => exact hb y (List.mem_of_getElem? e))
  clear hs hb
  generalize hn : ks.length = n at *
  go_enter Tryz.func22, Tryz.ntmps22
  by_cases h1 : n ≤ 1048576
  · go_wp2
    go_loopw [3, 4] (fun t i wr => ∃ k m : Nat, k ≤ n ∧ i = .int .i64 k ∧ t = .int .i64 (m : Int) ∧ m ≤ 1048576 ∧ wr = w ∧ Hid (∀ j, j < k → (gets ks j).size ≤ 1048576)) (fun _ i _ => n - (intOf i).toNat)
    case atStart => exact ⟨0, n, Nat.zero_le _, rfl, rfl, h1, rfl, Lib.hid (fun j hj => by omega)⟩
    case round =>
      obtain ⟨k, m, hk, rfl, rfl, hm2, rfl, HJ⟩ := hrel
      by_cases hlt : k < n
      · obtain ⟨b, off, hao, hc⟩ := Hs.out k (by omega)
        cases hao
        have hx := Hb.out k
        have HG := Lib.hid (show ∀ x, x = gets ks k → x.size ≤ 1048576 → ∀ j, j < k + 1 → (gets ks j).size ≤ 1048576 from fun x e hx j hj => by
          by_cases h : j = k
          · rw [h, ← e]; exact hx
          · exact HJ.out j (by omega))
        generalize hgx : gets ks k = x at *
        by_cases h2 : x.size ≤ 1048576
        · by_cases h3 : m + x.size ≤ 1048576
          · go_wp2
            go_roundw
            case rel => exact ⟨k + 1, m + x.size, by omega, by go_num, by go_num, h3, by first | rfl | trivial, Lib.hid (HG.out _ rfl h2)⟩
            case measure => simp [intOf]; omega
          · go_wp2
            go_ret
            exact ⟨false, rfl, rfl, fun h => by cases h⟩
        · go_wp2
          go_ret
          exact ⟨false, rfl, rfl, fun h => by cases h⟩
      · obtain rfl : k = n := by omega
        go_wp2
        go_ret
        exact ⟨true, rfl, rfl, fun _ => HJ.out⟩
  · go_wp2
    go_ret
    exact ⟨false, rfl, rfl, fun h => by cases h⟩
theorem infoStr : (Tryz.prog.info? 9).map (fun i => (i.zero, i.size, i.bytes)) = some (some (.string ByteArray.empty), 1, 16) := by kernel_rfl
theorem infoIntO : (Tryz.prog.info? 3).map (fun i => (i.zero, i.size, i.bytes)) = some (some (.int .i64 0), 1, 8) := by kernel_rfl
theorem make_strs (w : World) (n : Nat) (h : n ≤ 4096) : (Instr.makeSlice 42 (.int .i64 n) (.int .i64 n)).run Tryz.prog w = .ok (.slice (some ⟨w.heap.size, 0, none⟩) n n) (w.alloc (.cells (rowF (fun _ => .string ByteArray.empty) n) 9)) := by
  obtain ⟨i0, hi, hz0, hz1, hz2⟩ := info_parts infoStr
  rw [run_make w 42 9 i0 _ Tryz.underlying42 hi hz0 .i64 .i64 n n (by omega) (by omega) (by rw [hz2]; omega) (by omega)]
  rw [hz1, Int.toNat_natCast, ← madeF]
  rfl
theorem make_strs0 (w : World) (n : Nat) (h : n ≤ 4096) : (Instr.makeSlice 42 (.int .i64 0) (.int .i64 n)).run Tryz.prog w = .ok (.slice (some ⟨w.heap.size, 0, none⟩) 0 n) (w.alloc (.cells (rowF (uF []) n) 9)) := by
  obtain ⟨i0, hi, hz0, hz1, hz2⟩ := info_parts infoStr
  rw [run_make w 42 9 i0 _ Tryz.underlying42 hi hz0 .i64 .i64 0 n (by omega) (by omega) (by rw [hz2]; omega) (by omega)]
  rw [hz1, Int.toNat_natCast, show uF [] = (fun _ => Value.string ByteArray.empty) from funext fun i => by simp [uF, nth_nil], ← madeF]
  rfl
theorem make_ints0 (w : World) (n : Nat) (h : n ≤ 4096) : (Instr.makeSlice 45 (.int .i64 0) (.int .i64 n)).run Tryz.prog w = .ok (.slice (some ⟨w.heap.size, 0, none⟩) 0 n) (w.alloc (.cells (rowF (vF []) n) 3)) := by
  obtain ⟨i0, hi, hz0, hz1, hz2⟩ := info_parts infoIntO
  rw [run_make w 45 3 i0 _ Tryz.underlying45 hi hz0 .i64 .i64 0 n (by omega) (by omega) (by rw [hz2]; omega) (by omega)]
  rw [hz1, Int.toNat_natCast, show vF [] = (fun _ => Value.int .i64 0) from funext fun i => by simp [vF, nth_nil], ← madeF]
  rfl
/-- The first k keys copied. -/
def cF (ks : List ByteArray) (k i : Nat) : Value := if i < k then .string (gets ks i) else .string ByteArray.empty
theorem cF_zero (ks : List ByteArray) : cF ks 0 = fun _ => .string ByteArray.empty := funext fun i => by simp [cF]
theorem cF_step (ks : List ByteArray) (k n : Nat) : (rowF (cF ks k) n).setIfInBounds k (.string (gets ks k)) = rowF (cF ks (k + 1)) n := by
  rw [rowF_set]
  congr 1
  funext i
  unfold cF
  by_cases h : i = k
  · rw [if_pos h, if_pos (by omega), h]
  · rw [if_neg h]
    by_cases h2 : i < k
    · rw [if_pos h2, if_pos (by omega)]
    · rw [if_neg h2, if_neg (by omega)]
theorem cF_get (ks : List ByteArray) (k n : Nat) (h : k < n) : (rowF (cF ks k) n)[k]? = some (.string ByteArray.empty) := by
  rw [rowF_get _ _ _ h]
  simp [cF]
theorem copiedO (w : World) (ks : List ByteArray) : StrsArg (w.alloc (.cells (rowF (cF ks ks.length) ks.length) 9)) (some ⟨w.heap.size, 0, none⟩) ks.length ks :=
  ⟨fun h => by simp at h, fun k hk => ⟨_, _, rfl, by
    rw [Lib.cell_of_heap (heap_alloc_new _ _), Nat.zero_add, rowF_get _ _ _ hk]
    simp [cF, hk]⟩⟩
theorem gets_out {ks : List ByteArray} {n : Nat} (hn : ks.length = n) (h : ∀ k, k < n → (gets ks k).size ≤ 1048576) (k : Nat) : (gets ks k).size ≤ 1048576 := by
  by_cases hk : k < n
  · exact h k hk
  · unfold gets
    rw [List.getD_eq_getElem?_getD, List.getElem?_eq_none (by omega)]
    simp
/-- The two rows from U on hold L. -/
structure Rows (U n : Nat) (f : Nat → ByteArray × Nat) (w0 w : World) : Prop where
  u : w.heap[U]? = some (.cells (rowF (fun i => .string (f i).1) n) 9 (0, 0))
  v : w.heap[U + 1]? = some (.cells (rowF (fun i => .int .i64 ((f i).2 : Int)) n) 3 (0, 0))
  below : Below U w0 w
theorem Rows.c0 {U n : Nat} {f : Nat → ByteArray × Nat} {w0 w : World} (h : Rows U n f w0 w) {i : Nat} (hi : i < n) : w.cell? ⟨U, i, none⟩ = some (.string (f i).1) := by rw [Lib.cell_of_heap h.u, rowF_get _ _ _ hi]
theorem Rows.c1 {U n : Nat} {f : Nat → ByteArray × Nat} {w0 w : World} (h : Rows U n f w0 w) {i : Nat} (hi : i < n) : w.cell? ⟨U + 1, i, none⟩ = some (.int .i64 ((f i).2 : Int)) := by rw [Lib.cell_of_heap h.v, rowF_get _ _ _ hi]
theorem Rows.z0 {U n : Nat} {f : Nat → ByteArray × Nat} {w0 w : World} (h : Rows U n f w0 w) (i : Nat) : w.frozen? ⟨U, i, none⟩ = false := Lib.frozen_of_heap h.u i
theorem Rows.z1 {U n : Nat} {f : Nat → ByteArray × Nat} {w0 w : World} (h : Rows U n f w0 w) (i : Nat) : w.frozen? ⟨U + 1, i, none⟩ = false := Lib.frozen_of_heap h.v i
theorem Rows.congr {U n : Nat} {f g : Nat → ByteArray × Nat} {w0 w : World} (h : Rows U n f w0 w) (hg : ∀ i, f i = g i) : Rows U n g w0 w := by
  rw [show g = f from funext fun i => (hg i).symm]
  exact h
theorem Rows.same {U n : Nat} {f : Nat → ByteArray × Nat} {w0 w w' : World} (h : Rows U n f w0 w) (hb : Below w.heap.size w w') : Rows U n f w0 w' :=
  ⟨(hb.block U (Lib.lt_of_heap h.u)).trans h.u, (hb.block (U + 1) (Lib.lt_of_heap h.v)).trans h.v, h.below.trans (hb.mono (Nat.le_of_lt (Lib.lt_of_heap h.u)))⟩
theorem Rows.put0 {U n j : Nat} {f : Nat → ByteArray × Nat} {x : ByteArray} {w0 w : World} (h : Rows U n f w0 w) : Rows U n (fun i => if i = j then (x, (f i).2) else f i) w0 (w.setCell ⟨U, j, none⟩ (.string x)) := by
  refine ⟨?_, ?_, h.below.setCell (p := ⟨U, j, none⟩) (Nat.le_refl _) _⟩
  · rw [Lib.heap_setCell_same (i := j) h.u, rowF_set]
    congr 3
    funext i
    by_cases e : i = j <;> simp [e]
  · rw [heap_setCell_other _ _ _ _ (by simp)]
    rw [h.v]
    congr 3
    funext i
    by_cases e : i = j <;> simp [e]
theorem Rows.put1 {U n j k : Nat} {f : Nat → ByteArray × Nat} {w0 w : World} (h : Rows U n f w0 w) : Rows U n (fun i => if i = j then ((f i).1, k) else f i) w0 (w.setCell ⟨U + 1, j, none⟩ (.int .i64 (k : Int))) := by
  refine ⟨?_, ?_, h.below.setCell (p := ⟨U + 1, j, none⟩) (Nat.le_succ _) _⟩
  · rw [heap_setCell_other _ _ _ _ (by simp)]
    rw [h.u]
    congr 3
    funext i
    by_cases e : i = j <;> simp [e]
  · rw [Lib.heap_setCell_same (i := j) h.v, rowF_set]
    congr 3
    funext i
    by_cases e : i = j <;> simp [e]
theorem make_wantO (w : World) (n : Nat) (hn : n ≤ 1048576) : (Instr.makeSlice 29 (.int .i64 0) (.int .i64 (2 + 6 * (n : Int)))).run Tryz.prog w = .ok (.slice (some ⟨w.heap.size, 0, none⟩) 0 (2 + 6 * n)) (w.alloc (.cells (madeCells #[.int .u8 0] (2 + 6 * n)) 5)) := by
  obtain ⟨i0, hi, hz0, hz1, hz2⟩ := info_parts info_byte
  rw [run_make w 29 5 i0 (.int .u8 0) Tryz.underlying29 hi hz0 .i64 .i64 0 (2 + 6 * (n : Int)) (by omega) (by omega) (by rw [hz2]; omega) (by omega)]
  rw [hz1, show (2 + 6 * (n : Int)).toNat = 2 + 6 * n from by omega, Nat.mul_one]
  rfl
theorem own_madeO (w : World) (n : Nat) (hn : n ≤ 1048576) : Own w.heap.size (.slice (some ⟨w.heap.size, 0, none⟩) 0 (2 + 6 * n)) [] (w.alloc (.cells (madeCells #[.int .u8 0] (2 + 6 * n)) 5)) :=
  World.ownsRow_made w _ _ (Nat.le_refl _) (by unfold maxLen; omega) (by simp [madeCells])
theorem rising_one (L : List (ByteArray × Nat)) : Rising (L.take 1) := by
  unfold Rising
  cases L with
  | nil => simp
  | cons a l => simp
theorem shf_low {T : List (ByteArray × Nat)} {a c i : Nat} (h : i ≤ c) : shf T a c i = nth T i := by
  unfold shf
  rw [if_pos h]
theorem bytesLess_kLt (p q : ByteArray × Nat) : Op.bytesLess p.1.toList q.1.toList = true ↔ kLt p q := ltKV_iff p q
theorem bytesLess_not (p q : ByteArray × Nat) : Op.bytesLess p.1.toList q.1.toList = false ↔ ¬ kLt p q := ltKV_not p q
set_option maxRecDepth 100000 in
set_option maxHeartbeats 12800000 in
theorem lawO_some (a0 : Addr) (cap : Nat) (ks : List ByteArray) (w : World) (hs : StrsArg w (some a0) cap ks) (hm : ks.length ≤ 9223372036854775807) (hb : ∀ s ∈ ks, s.size ≤ 9223372036854775807) (hU : U8 w.heap.size w) (htab : Tab w.heap.size w) :
    Calls Tryz.prog 6 #[.slice (some a0) ks.length cap] w (LawPost w) := by
  have HY := Lib.hid (bytesO (some a0) cap ks w hs hm hb)
  have Hs := Lib.hid hs
  have HU := Lib.hid (And.intro hU htab)
  clear hs hb hU htab
  generalize hn : ks.length = n at *
  have HN := Lib.hid hn
  clear hn
  have hnil := fun wx n' c' => Go.run_neq_slice_nil_any (P := Tryz.prog) wx 42 9 (some a0) n cap n' c' Tryz.underlying42
  go_enter Tryz.func6, Tryz.ntmps6
  go_wp2_with fail
  try go_at_call 22
  refine HY.out.mono ?_
  rintro e w' ⟨r, rfl, rfl, hr⟩
  cases r
  · go_wp2
    go_ret
    exact ⟨rfl, Below.refl _ _⟩
  have HR := Lib.hid (hr rfl)
  clear hr HY
  by_cases h4 : n ≤ 4096
  · go_wp2
    go_loopw [3, 4] (fun t i wr => ∃ k m : Nat, k ≤ n ∧ i = .int .i64 k ∧ t = .int .i64 (m : Int) ∧ m ≤ 1048576 ∧ wr = w') (fun _ i _ => n - (intOf i).toNat)
    case atStart => exact ⟨0, 0, Nat.zero_le _, rfl, rfl, Nat.zero_le _, rfl⟩
    case round =>
      obtain ⟨k, tot, hk, rfl, rfl, hm2, rfl⟩ := hrel
      by_cases hlt : k < n
      · obtain ⟨b, off, hao, hc⟩ := Hs.out.at' k (by rw [HN.out]; exact hlt)
        cases hao
        have hx := HR.out k hlt
        generalize gets ks k = x at hx hc
        obtain ⟨z, hz, hz0, hz1⟩ : ∃ z : Int, (x.size : Int) = z ∧ 0 ≤ z ∧ z ≤ 1048576 := ⟨_, rfl, by omega, by omega⟩
        clear hx
        by_cases h3 : (tot : Int) + (z + 16) ≤ 1048576
        · go_wp2
          go_roundw
          case rel => exact ⟨k + 1, tot + (x.size + 16), by omega, by go_num, by congr 1; omega, by omega, by first | rfl | trivial⟩
          case measure => simp [intOf]; omega
        · go_wp2
          go_ret
          exact ⟨rfl, Below.refl _ _⟩
      · have hkn : k = n := by omega
        subst hkn
        have hmk := make_strs wr k h4
        rw [← cF_zero ks] at hmk
        go_wp2
        go_loopw [6] (fun ix wx => ∃ q : Nat, q ≤ k ∧ ix = .int .i64 (q : Int) ∧ wx = wr.alloc (.cells (rowF (cF ks q) k) 9)) (fun ix _ => k - (intOf ix).toNat)
        case atStart => exact ⟨0, Nat.zero_le _, rfl, rfl⟩
        case round =>
          obtain ⟨q, hq, rfl, rfl⟩ := hrel
          by_cases hlt2 : q < k
          · obtain ⟨b, off, hao, hc⟩ := Hs.out.at' q (by rw [HN.out]; exact hlt2)
            cases hao
            have hb : b < wr.heap.size := World.block_lt_of_cell? _ _ hc
            have hset := cF_step ks q k
            have hget := cF_get ks q k hlt2
            clear hmk
            go_wp2
            go_roundw
            case rel => exact ⟨q + 1, by omega, by go_num, rfl⟩
            case measure => simp [intOf]; omega
          · have hqk : q = k := by omega
            subst hqk
            have HI := Lib.hid (show StrsArg (wr.alloc (.cells (rowF (cF ks q) q) 9)) (some ⟨wr.heap.size, 0, none⟩) q ks from by have := copiedO wr ks; rw [HN.out] at this; exact this)
            have HBe := Lib.hid (show Below wr.heap.size wr (wr.alloc (.cells (rowF (cF ks q) q) 9)) from (Below.refl _ _).alloc (Nat.le_refl _) _)
            clear Hs hmk
            generalize wr.alloc (.cells (rowF (cF ks q) q) 9) = W at HI HBe ⊢
            have HZ := Lib.hid (zzObj (some ⟨wr.heap.size, 0, none⟩) q ks W HI.out (by rw [HN.out]; exact h4) (gets_out HN.out HR.out) (u8_at (u8_below HU.out.1 HBe.out)) (tab_up (tab_below HU.out.2 HBe.out) HBe.out.size (Nat.le_refl _)))
            rw [HN.out] at HZ
            go_wp2_with fail
            try go_at_call 23
            refine HZ.out.mono ?_
            rintro e w1 ⟨S, hr, hmem, rfl, hb1⟩
            have HI1 := Lib.hid (HI.out.below hb1)
            have HB1 := Lib.hid (show Below wr.heap.size wr w1 from HBe.out.trans (hb1.mono HBe.out.size))
            have HS := Lib.hid (And.intro hr hmem)
            clear hb1 HZ HI HBe hr hmem
            obtain ⟨t, ht⟩ : ∃ t : ByteArray, t = ⟨(objT S).toArray⟩ := ⟨_, rfl⟩
            have HT := Lib.hid (show t.data.toList = objT S from by rw [ht])
            rw [← ht]
            clear ht
            have hmk1 := make_strs0 w1 q h4
            have hmk2 := fun w => make_ints0 w q h4
            have HRw := Lib.hid (show Rows w1.heap.size q (nth (uq ks 0)) w1 ((w1.alloc (.cells (rowF (uF []) q) 9)).alloc (.cells (rowF (vF []) q) 3)) from
              ⟨by rw [Below.heap_alloc _ _ _ (by simp)]; exact heap_alloc_new _ _, by have := heap_alloc_new (w1.alloc (.cells (rowF (uF []) q) 9)) (.cells (rowF (vF []) q) 3); rw [show (w1.alloc (.cells (rowF (uF []) q) 9)).heap.size = w1.heap.size + 1 from by simp] at this; exact this, ((Below.refl _ _).alloc (Nat.le_refl _) _).alloc (by simp) _⟩)
            go_wp2
            clear hmk1 hmk2
            go_loopw [8, 9, 10] (fun ux vx ix wx => ∃ k m : Nat, k ≤ q ∧ m ≤ k ∧ ux = .slice (some ⟨w1.heap.size, 0, none⟩) m q ∧ vx = .slice (some ⟨w1.heap.size + 1, 0, none⟩) m q ∧ ix = .int .i64 k ∧ Hid (m = (uq ks k).length ∧ Rows w1.heap.size q (nth (uq ks k)) w1 wx)) (fun _ _ ix _ => q - (intOf ix).toNat)
            case atStart => exact ⟨0, 0, Nat.zero_le _, Nat.le_refl _, rfl, rfl, rfl, Lib.hid ⟨rfl, HRw.out⟩⟩
            case round =>
              clear HRw
              obtain ⟨k, m, hk, hmk, rfl, rfl, rfl, HRw⟩ := hrel
              by_cases hlt3 : k < q
              · obtain ⟨b, off, hao, hc0⟩ := HI1.out.at' k (by rw [HN.out]; exact hlt3)
                cases hao
                have hc1 := hc0
                simp only [Nat.zero_add] at hc1
                clear hc0
                have HUp := Lib.hid (show uq ks (k + 1) = upd (uq ks k) (gets ks k) k from rfl)
                have HAp := Lib.hid (apart_uq ks k)
                generalize gets ks k = x at hc1 HUp
                generalize uq ks k = L at HUp HAp HRw
                go_wp2
                go_loopw [11, 12] (fun fx jx wy => ∃ j : Nat, j ≤ m ∧ fx = .int .i64 (-1) ∧ jx = .int .i64 (j : Int) ∧ Hid (Rows w1.heap.size q (nth L) w1 wy) ∧ Hid (∀ i, i < j → (nth L i).1 ≠ x)) (fun _ jx _ => m - (intOf jx).toNat)
                case atStart => exact ⟨0, Nat.zero_le _, rfl, rfl, Lib.hid HRw.out.2, Lib.hid (fun i hi => by omega)⟩
                case round =>
                  obtain ⟨j, hj, rfl, rfl, HW, HJ⟩ := hrel
                  have hck := cellO_below HW.out.below (Nat.le_refl _) hc1
                  by_cases hlt4 : j < m
                  · have r0 := HW.out.c0 (i := j) (by omega)
                    by_cases he : (nth L j).1 = x
                    · rw [he] at r0
                      have r1 := HW.out.c1 (i := j) (by omega)
                      have f1 := HW.out.z1 j
                      go_wp2
                      go_region
                      all_goals go_wp2
                      all_goals refine ⟨⟨k + 1, m, by omega, by omega, rfl, rfl, by go_num, Lib.hid ⟨?_, ?_⟩⟩, ?_⟩
                      all_goals try first
                        | (rw [HUp.out, upd_old_len (by rw [← HRw.out.1]; exact hlt4) he]; exact HRw.out.1)
                        | (rw [HUp.out]; exact ((HW.out.put1 (j := j) (k := k)).congr (fun i => by
                            rw [nth_upd HAp.out (by rw [← HRw.out.1]; exact hlt4) he]
                            by_cases e : i = j
                            · rw [if_pos e, if_pos e, e, he]
                            · rw [if_neg e, if_neg e])).same ⟨rfl, rfl, rfl, Nat.le_refl _, fun _ _ => rfl⟩)
                        | (simp [intOf]; omega)
                    · generalize hy : (nth L j).1 = y at r0 he
                      have HNe := Lib.hid hy
                      clear hy
                      have hne2 : (y.toList == x.toList) = false := by
                        rw [beq_eq_false_iff_ne]
                        intro e
                        exact he (ba_ext (by rw [← Lib.toList_data, ← Lib.toList_data]; exact e))
                      go_wp2
                      go_region
                      all_goals go_wp2
                      all_goals refine ⟨⟨j + 1, by omega, rfl, by go_num, Lib.hid (HW.out.same ⟨rfl, rfl, rfl, Nat.le_refl _, fun _ _ => rfl⟩), Lib.hid (fun i hi => ?_)⟩, ?_⟩
                      all_goals try first
                        | (by_cases e : i = j
                           · rw [e, HNe.out]; exact he
                           · exact HJ.out i (by omega))
                        | (simp [intOf]; omega)
                  · have hjm : j = m := by omega
                    have HNew := Lib.hid (upd_new (k := k) (fun i hi => HJ.out i (by rw [hjm, HRw.out.1]; exact hi)))
                    have hb1 : w1.heap.size < wr.heap.size := Lib.lt_of_heap HW.out.u
                    have hb2 : w1.heap.size + 1 < wr.heap.size := Lib.lt_of_heap HW.out.v
                    have r0 := HW.out.c0 (i := m) (by omega)
                    have f0 := HW.out.z0 m
                    have r1 := HW.out.c1 (i := m) (by omega)
                    have f1 := HW.out.z1 m
                    go_wp2_with fail
                    have hml := HRw.out.1
                    refine ⟨⟨k + 1, m + 1, by omega, by omega, rfl, rfl, by go_num, Lib.hid ⟨?_, ?_⟩⟩, ?_⟩
                    · rw [HUp.out, HNew.out, List.length_append, List.length_singleton, ← HRw.out.1]
                    · rw [HUp.out, HNew.out]
                      refine (((HW.out.put0 (j := m) (x := x)).put1 (j := m) (k := k)).congr (fun i => ?_)).same (((Below.refl _ _).alloc (Nat.le_refl _) _).alloc (by simp) _)
                      rw [nth_app, ← hml]
                      by_cases e : i = m <;> simp [e]
                    · simp [intOf]; omega
              · have hkq : k = q := by omega
                subst hkq
                have HW0 := HRw
                have hU0 : w1.heap.size < wr.heap.size := Lib.lt_of_heap HRw.out.2.u
                have hU1 : w1.heap.size + 1 < wr.heap.size := Lib.lt_of_heap HRw.out.2.v
                go_wp2_with fail
                go_loopw [13] (fun ax wx => ∃ a : Nat, 1 ≤ a ∧ ax = .int .i64 (a : Int) ∧ Hid (∃ T : List (ByteArray × Nat), T.Perm (uq ks k) ∧ Rising (T.take a) ∧ Rows w1.heap.size k (nth T) w1 wx)) (fun ax _ => m - (intOf ax).toNat)
                case atStart => exact ⟨1, Nat.le_refl _, rfl, Lib.hid ⟨uq ks k, List.Perm.refl _, rising_one _, HRw.out.2⟩⟩
                case round =>
                  clear HRw
                  obtain ⟨a, ha1, rfl, HRw⟩ := hrel
                  obtain ⟨T, hperm, hrise, hrows⟩ := HRw.out
                  have hTl : T.length = m := by rw [HW0.out.1]; exact hperm.length_eq
                  have HP := Lib.hid (And.intro hperm (And.intro hrise hTl))
                  have HW := Lib.hid hrows
                  clear hperm hrise hrows HRw hTl
                  by_cases hlt5 : a < m
                  · have r0 := HW.out.c0 (i := a) (by omega)
                    have r1 := HW.out.c1 (i := a) (by omega)
                    go_wp2_with fail
                    go_loopw [16] (fun bx wy => ∃ (c : Nat) (bi : Int), c ≤ a ∧ bx = .int .i64 bi ∧ bi = (c : Int) - 1 ∧ Hid (Rows w1.heap.size k (shf T a c) w1 wy) ∧ Hid (∀ i, c ≤ i → i < a → kLt (nth T a) (nth T i))) (fun bx _ => (intOf bx + 1).toNat)
                    case atStart => exact ⟨a, _, Nat.le_refl _, rfl, rfl, Lib.hid (HW.out.congr (fun i => (shf_start T a i).symm)), Lib.hid (fun i h1 h2 => by omega)⟩
                    case round =>
                      clear HW r0 r1
                      obtain ⟨c, bi, hc, rfl, hbi, HW, HK⟩ := hrel
                      have hlta : a < T.length := by rw [HP.out.2.2]; exact hlt5
                      rcases c with _ | c
                      · obtain rfl : bi = -1 := by omega
                        clear hbi
                        have r0 := HW.out.c0 (i := 0) (by omega)
                        have r1 := HW.out.c1 (i := 0) (by omega)
                        have f0 := HW.out.z0 0
                        have f1 := HW.out.z1 0
                        go_wp2_with fail
                        refine ⟨⟨a + 1, by omega, by go_num, Lib.hid ⟨ins T a (0), (ins_perm T a (0) hc hlta).trans HP.out.1, rising_ins hc hlta HP.out.2.1 (fun i h => by omega) HK.out, ?_⟩⟩, ?_⟩
                        · refine ((HW.out.put0 (j := 0) (x := (nth T a).1)).put1 (j := 0) (k := (nth T a).2)).congr (fun i => ?_)
                          rw [← shf_ins T a (0) i hc hlta]
                          by_cases e : i = 0 <;> simp [e]
                        · simp [intOf]; omega
                      · obtain rfl : bi = (c : Int) := by omega
                        clear hbi
                        have q0 := HW.out.c0 (i := c) (by omega)
                        have q1 := HW.out.c1 (i := c) (by omega)
                        rw [shf_low (Nat.le_succ c)] at q0 q1
                        have r0 := HW.out.c0 (i := c + 1) (by omega)
                        have r1 := HW.out.c1 (i := c + 1) (by omega)
                        have f0 := HW.out.z0 (c + 1)
                        have f1 := HW.out.z1 (c + 1)
                        have hat := apart_perm HP.out.1 (apart_uq ks k)
                        have hnk : (nth T c).1 ≠ (nth T a).1 := by
                          rw [nth_get hlta, nth_get (by omega)]
                          exact List.pairwise_iff_getElem.1 hat c a (by omega) hlta (by omega)
                        have HAT := Lib.hid (And.intro hat hnk)
                        have hne2 : ((nth T c).1.toList == (nth T a).1.toList) = false := by
                          rw [beq_eq_false_iff_ne]
                          intro e
                          exact hnk (ba_ext (by rw [← Lib.toList_data, ← Lib.toList_data]; exact e))
                        clear hat hnk
                        by_cases hgt : kLt (nth T a) (nth T c)
                        · have hb := (bytesLess_not (nth T c) (nth T a)).2 (fun h => kLt_irrefl _ (kLt_trans h hgt))
                          go_wp2_with fail
                          refine ⟨⟨c, _, by omega, rfl, rfl, Lib.hid ?_, Lib.hid (fun i h1 h2 => ?_)⟩, ?_⟩
                          · refine ((HW.out.put0 (j := c + 1) (x := (nth T c).1)).put1 (j := c + 1) (k := (nth T c).2)).congr (fun i => ?_)
                            rw [← shf_step T a c i hc]
                            by_cases e : i = c + 1 <;> simp [e]
                          · by_cases e : i = c
                            · rw [e]; exact hgt
                            · exact HK.out i (by omega) h2
                          · simp [intOf]
                        · have hb := (bytesLess_kLt (nth T c) (nth T a)).2 (kLt_total (fun e => HAT.out.2 e.symm) hgt)
                          go_wp2_with fail
                          refine ⟨⟨a + 1, by omega, by go_num, Lib.hid ⟨ins T a (c + 1), (ins_perm T a (c + 1) hc hlta).trans HP.out.1, rising_ins hc hlta HP.out.2.1 (rising_below (by omega) hlta HP.out.2.1 HAT.out.1 hgt) HK.out, ?_⟩⟩, ?_⟩
                          · refine ((HW.out.put0 (j := c + 1) (x := (nth T a).1)).put1 (j := c + 1) (k := (nth T a).2)).congr (fun i => ?_)
                            rw [← shf_ins T a (c + 1) i hc hlta]
                            by_cases e : i = c + 1 <;> simp [e]
                          · simp [intOf]; omega
                  · have htr : Rising T := by
                      have := HP.out.2.1
                      rw [List.take_of_length_le (by rw [HP.out.2.2]; omega)] at this
                      exact this
                    have hmt : ∀ x i, (x, i) ∈ T ↔ LastAt ks k x i := fun x i => (HP.out.1.mem_iff).trans (mem_uq ks k x i)
                    have hTS : T = S := rising_unique htr HS.out.1 (fun ⟨x, i⟩ => by rw [hmt x i, HS.out.2 x i])
                    have hsm : Small T := fun p hp => by
                      obtain ⟨x, i⟩ := p
                      obtain ⟨h1, h2, _⟩ := (hmt x i).1 hp
                      have := gets_out HN.out HR.out i
                      unfold gets at this
                      exact ⟨by rw [← h2]; exact this, by omega⟩
                    have HTS := Lib.hid (show t.data.toList = objT T from by rw [hTS]; exact HT.out)
                    have HSm := Lib.hid hsm
                    have hTl := HP.out.2.2
                    clear hTS hmt htr hsm HT HS HP HR
                    have hmk3 := make_wantO wr tot hm2
                    have HOm := Lib.hid (own_madeO wr tot hm2)
                    go_wp2_with (at_builtin; refine app_byteK rfl _ _ rfl wr.heap.size _ _ [] 123 _ _ _ rfl ?cb9 rfl rfl ?co9 ?cB9 ?cl9 ?_)
                    case cb9 => simp
                    case co9 => exact HOm.out
                    case cB9 => simp
                    case cl9 => simp
                    intro v0 w2 ho hb hk
                    have HO := Lib.hid (show Own wr.heap.size v0 ([123] ++ objP T 0) w2 ∧ Below wr.heap.size wr w2 from ⟨by simpa [objP] using ho, ((Below.refl _ _).alloc (Nat.le_refl _) _).trans hb⟩)
                    clear ho hb hk hmk3 HOm
                    obtain ⟨W3, hW3⟩ : ∃ W, W = wr := ⟨_, rfl⟩
                    obtain ⟨B, hBe⟩ : ∃ B, B = W3.heap.size := ⟨_, rfl⟩
                    rw [← hW3, ← hBe] at HO
                    rw [← hW3] at HW
                    have HB := Lib.hid (show W3.heap.size ≤ B from by omega)
                    have HBu := Lib.hid (show w1.heap.size ≤ B from by rw [hBe]; exact Nat.le_of_lt (Lib.lt_of_heap HW.out.u))
                    have HBl := Lib.hid (Nat.le_of_eq hBe)
                    clear hW3 hBe
                    go_wp2
                    go_loopw [17, 18] (fun out jx wx => ∃ j : Nat, j ≤ m ∧ jx = .int .i64 (j : Int) ∧ Hid (Own B out ([123] ++ objP T j) wx ∧ Below B W3 wx)) (fun _ jx _ => m - (intOf jx).toNat)
                    case atStart => exact ⟨0, Nat.zero_le _, rfl, HO⟩
                    case round =>
                      clear HO
                      obtain ⟨j, hj, rfl, HO⟩ := hrel
                      have hol := objP_len T HSm.out j (by omega)
                      have HL := Lib.hid (show ([123] ++ objP T j).length ≤ 30000000000 ∧ ([123] ++ objP T j).length + 1 ≤ 30000000000 from by
                        rw [List.length_append, List.length_singleton]
                        omega)
                      have hql := quo_len (nth T j).1
                      by_cases hlt6 : j < m
                      · have hsz := (HSm.out _ (nth_mem (show j < T.length by omega))).1
                        have hq2 := (HSm.out _ (nth_mem (show j < T.length by omega))).2
                        have r0 := cellO_below HO.out.2 HB.out (HW.out.c0 (i := j) (by omega))
                        by_cases hj0 : j = 0
                        · subst hj0
                          have HJ := Lib.hid (show [123] ++ objP T 0 ++ quo (nth T 0).1 ++ [58] ++ Lib.itoa ((nth T 0).2 : Int) = [123] ++ objP T (0 + 1) from by simp [objP, kvT])
                          go_wp2_with fail
                          try go_at_call 24
                          refine (quote_app B _ ([123] ++ objP T 0) _ hsz _ HO.out.1 (Nat.le_trans HBl.out HO.out.2.size) (by have := HL.out; simp only [List.length_append, List.length_singleton] at this ⊢; omega)).mono ?_
                          rintro e w3 ⟨v3, rfl, ho3, hb3⟩
                          have HO3 := Lib.hid (show Own B v3 (([123] ++ objP T 0) ++ quo (nth T 0).1) w3 ∧ Below B W3 w3 from ⟨ho3, HO.out.2.trans hb3⟩)
                          clear ho3 hb3
                          go_wp2_with (at_builtin; refine app_byteK rfl _ _ rfl B _ _ (([123] ++ objP T 0) ++ quo (nth T 0).1) 58 _ _ _ rfl ?cb8 rfl rfl ?co8 ?cB8 ?cl8 ?_)
                          case cb8 => first | rfl | simp
                          case co8 => exact HO3.out.1
                          case cB8 => exact Nat.le_trans HBl.out HO3.out.2.size
                          case cl8 => have := HL.out; simp only [List.length_append, List.length_singleton] at this ⊢; omega
                          intro v4 w4 ho hb hk
                          have HO4 := Lib.hid (show Own B v4 (([123] ++ objP T 0) ++ quo (nth T 0).1 ++ [58]) w4 ∧ Below B W3 w4 from ⟨by first | exact ho | simpa using ho, HO3.out.2.trans hb⟩)
                          clear ho hb hk
                          have r1 := cellO_below HO4.out.2 HB.out (HW.out.c1 (i := 0) (by omega))
                          go_wp2_with fail
                          try go_at_call 19
                          refine (appInt64 B _ _ ((nth T 0).2 : Int) ⟨by omega, by omega⟩ _ HO4.out.1 (Nat.le_trans HBl.out HO4.out.2.size) (by have := HL.out; simp only [List.length_append, List.length_singleton] at this ⊢; omega)).mono ?_
                          rintro e w5 ⟨v5, rfl, ho5, hb5⟩
                          have HO5 := Lib.hid (show Own B v5 ([123] ++ objP T (0 + 1)) w5 ∧ Below B W3 w5 from ⟨by rw [← HJ.out]; exact ho5, HO4.out.2.trans hb5⟩)
                          clear ho5 hb5
                          go_wp2
                          refine ⟨⟨1, by omega, by go_num, HO5⟩, ?_⟩
                          simp [intOf]; omega
                        · have hj1 : (0 : Int) < (j : Int) := by omega
                          have HJ := Lib.hid (show [123] ++ objP T j ++ [44] ++ quo (nth T j).1 ++ [58] ++ Lib.itoa ((nth T j).2 : Int) = [123] ++ objP T (j + 1) from by simp [objP, kvT, hj0])
                          clear hj0
                          go_wp2_with (at_builtin; refine app_byteK rfl _ _ rfl B _ _ ([123] ++ objP T j) 44 _ _ _ rfl ?cb6 rfl rfl ?co6 ?cB6 ?cl6 ?_)
                          case cb6 => first | rfl | simp
                          case co6 => exact HO.out.1
                          case cB6 => exact Nat.le_trans HBl.out HO.out.2.size
                          case cl6 => have := HL.out; omega
                          intro v2 w2 ho hb hk
                          have HO2 := Lib.hid (show Own B v2 ([123] ++ objP T j ++ [44]) w2 ∧ Below B W3 w2 from ⟨by first | exact ho | simpa using ho, HO.out.2.trans hb⟩)
                          clear ho hb hk r0
                          have r0 := cellO_below HO2.out.2 HB.out (HW.out.c0 (i := j) (by omega))
                          go_wp2_with fail
                          try go_at_call 24
                          refine (quote_app B _ ([123] ++ objP T j ++ [44]) _ hsz _ HO2.out.1 (Nat.le_trans HBl.out HO2.out.2.size) (by have := HL.out; simp only [List.length_append, List.length_singleton] at this ⊢; omega)).mono ?_
                          rintro e w3 ⟨v3, rfl, ho3, hb3⟩
                          have HO3 := Lib.hid (show Own B v3 (([123] ++ objP T j ++ [44]) ++ quo (nth T j).1) w3 ∧ Below B W3 w3 from ⟨ho3, HO2.out.2.trans hb3⟩)
                          clear ho3 hb3
                          go_wp2_with (at_builtin; refine app_byteK rfl _ _ rfl B _ _ (([123] ++ objP T j ++ [44]) ++ quo (nth T j).1) 58 _ _ _ rfl ?cb8 rfl rfl ?co8 ?cB8 ?cl8 ?_)
                          case cb8 => first | rfl | simp
                          case co8 => exact HO3.out.1
                          case cB8 => exact Nat.le_trans HBl.out HO3.out.2.size
                          case cl8 => have := HL.out; simp only [List.length_append, List.length_singleton] at this ⊢; omega
                          intro v4 w4 ho hb hk
                          have HO4 := Lib.hid (show Own B v4 (([123] ++ objP T j ++ [44]) ++ quo (nth T j).1 ++ [58]) w4 ∧ Below B W3 w4 from ⟨by first | exact ho | simpa using ho, HO3.out.2.trans hb⟩)
                          clear ho hb hk
                          have r1 := cellO_below HO4.out.2 HB.out (HW.out.c1 (i := j) (by omega))
                          go_wp2_with fail
                          try go_at_call 19
                          refine (appInt64 B _ _ ((nth T j).2 : Int) ⟨by omega, by omega⟩ _ HO4.out.1 (Nat.le_trans HBl.out HO4.out.2.size) (by have := HL.out; simp only [List.length_append, List.length_singleton] at this ⊢; omega)).mono ?_
                          rintro e w5 ⟨v5, rfl, ho5, hb5⟩
                          have HO5 := Lib.hid (show Own B v5 ([123] ++ objP T (j + 1)) w5 ∧ Below B W3 w5 from ⟨by rw [← HJ.out]; exact ho5, HO4.out.2.trans hb5⟩)
                          clear ho5 hb5
                          go_wp2
                          refine ⟨⟨j + 1, by omega, by go_num, HO5⟩, ?_⟩
                          simp [intOf]; omega
                      · have hjm : j = m := by omega
                        go_wp2_with (at_builtin; refine app_byteK rfl _ _ rfl B _ _ ([123] ++ objP T j) 125 _ _ _ rfl ?cb5 rfl rfl ?co5 ?cB5 ?cl5 ?_)
                        case cb5 => first | rfl | simp
                        case co5 => exact HO.out.1
                        case cB5 => exact Nat.le_trans HBl.out HO.out.2.size
                        case cl5 => have := HL.out; omega
                        intro v2 w2 ho hb hk
                        have HO2 := Lib.hid (show Own B v2 (objT T) w2 ∧ Below B W3 w2 from ⟨by unfold objT; rw [hTl]; first | simpa using ho | (rw [← hjm]; simpa using ho), HO.out.2.trans hb⟩)
                        have HLn := Lib.hid (show (objT T).length ≤ 140737488355328 from by
                          have := HL.out
                          unfold objT
                          rw [hTl, ← hjm]
                          simp only [List.length_append, List.length_singleton]
                          simp only [List.length_append, List.length_singleton] at this
                          omega)
                        clear ho hb hk
                        go_wp2_with fail
                        try go_at_call 25
                        refine (sameSB _ t _ _ _ HTS.out HLn.out HO2.out.1).mono ?_
                        rintro e w4 ⟨rfl, nq, rfl⟩
                        go_wp2
                        go_ret
                        refine ⟨rfl, HB1.out.trans ((HW.out.below.mono HB1.out.size).trans ((HO2.out.2.mono (Nat.le_trans HB1.out.size HBu.out)).trans ⟨rfl, rfl, rfl, Nat.le_refl _, fun _ _ => rfl⟩))⟩
  · go_wp2
    go_ret
    exact ⟨rfl, Below.refl _ _⟩
set_option maxRecDepth 100000 in
set_option maxHeartbeats 12800000 in
theorem lawO_none (cap : Nat) (ks : List ByteArray) (w : World) (hs : StrsArg w none cap ks) (hm : ks.length ≤ 9223372036854775807) (hb : ∀ s ∈ ks, s.size ≤ 9223372036854775807) (hU : U8 w.heap.size w) (htab : Tab w.heap.size w) :
    Calls Tryz.prog 6 #[.slice none ks.length cap] w (LawPost w) := by
  have HY := Lib.hid (bytesO none cap ks w hs hm hb)
  have Hs := Lib.hid hs
  have HU := Lib.hid (And.intro hU htab)
  clear hs hb hU htab
  generalize hn : ks.length = n at *
  have HN := Lib.hid hn
  clear hn
  have hnil := fun wx n' c' => Go.run_neq_slice_nil_any (P := Tryz.prog) wx 42 9 none n cap n' c' Tryz.underlying42
  go_enter Tryz.func6, Tryz.ntmps6
  go_wp2_with fail
  try go_at_call 22
  refine HY.out.mono ?_
  rintro e w' ⟨r, rfl, rfl, hr⟩
  cases r
  · go_wp2
    go_ret
    exact ⟨rfl, Below.refl _ _⟩
  have HR := Lib.hid (hr rfl)
  clear hr HY
  by_cases h4 : n ≤ 4096
  · go_wp2
    go_loopw [3, 4] (fun t i wr => ∃ k m : Nat, k ≤ n ∧ i = .int .i64 k ∧ t = .int .i64 (m : Int) ∧ m ≤ 1048576 ∧ wr = w') (fun _ i _ => n - (intOf i).toNat)
    case atStart => exact ⟨0, 0, Nat.zero_le _, rfl, rfl, Nat.zero_le _, rfl⟩
    case round =>
      obtain ⟨k, tot, hk, rfl, rfl, hm2, rfl⟩ := hrel
      by_cases hlt : k < n
      · obtain ⟨b, off, hao, hc⟩ := Hs.out.at' k (by rw [HN.out]; exact hlt)
        cases hao
      · have hkn : k = n := by omega
        subst hkn
        obtain ⟨q, hqk⟩ : ∃ q, q = k := ⟨_, rfl⟩
        subst hqk
        have HI := Hs
        have HBe := Lib.hid (Below.refl wr.heap.size wr)
        clear Hs
        have HZ := Lib.hid (zzObj none cap ks wr HI.out (by rw [HN.out]; exact h4) (gets_out HN.out HR.out) (u8_at (u8_below HU.out.1 HBe.out)) (tab_up (tab_below HU.out.2 HBe.out) HBe.out.size (Nat.le_refl _)))
        rw [HN.out] at HZ
        go_wp2_with fail
        try go_at_call 23
        refine HZ.out.mono ?_
        rintro e w1 ⟨S, hr, hmem, rfl, hb1⟩
        have HI1 := Lib.hid (HI.out.below hb1)
        have HB1 := Lib.hid (show Below wr.heap.size wr w1 from HBe.out.trans (hb1.mono HBe.out.size))
        have HS := Lib.hid (And.intro hr hmem)
        clear hb1 HZ HI HBe hr hmem
        obtain ⟨t, ht⟩ : ∃ t : ByteArray, t = ⟨(objT S).toArray⟩ := ⟨_, rfl⟩
        have HT := Lib.hid (show t.data.toList = objT S from by rw [ht])
        rw [← ht]
        clear ht
        have hmk1 := make_strs0 w1 q h4
        have hmk2 := fun w => make_ints0 w q h4
        have HRw := Lib.hid (show Rows w1.heap.size q (nth (uq ks 0)) w1 ((w1.alloc (.cells (rowF (uF []) q) 9)).alloc (.cells (rowF (vF []) q) 3)) from
          ⟨by rw [Below.heap_alloc _ _ _ (by simp)]; exact heap_alloc_new _ _, by have := heap_alloc_new (w1.alloc (.cells (rowF (uF []) q) 9)) (.cells (rowF (vF []) q) 3); rw [show (w1.alloc (.cells (rowF (uF []) q) 9)).heap.size = w1.heap.size + 1 from by simp] at this; exact this, ((Below.refl _ _).alloc (Nat.le_refl _) _).alloc (by simp) _⟩)
        go_wp2
        clear hmk1 hmk2
        go_loopw [8, 9, 10] (fun ux vx ix wx => ∃ k m : Nat, k ≤ q ∧ m ≤ k ∧ ux = .slice (some ⟨w1.heap.size, 0, none⟩) m q ∧ vx = .slice (some ⟨w1.heap.size + 1, 0, none⟩) m q ∧ ix = .int .i64 k ∧ Hid (m = (uq ks k).length ∧ Rows w1.heap.size q (nth (uq ks k)) w1 wx)) (fun _ _ ix _ => q - (intOf ix).toNat)
        case atStart => exact ⟨0, 0, Nat.zero_le _, Nat.le_refl _, rfl, rfl, rfl, Lib.hid ⟨rfl, HRw.out⟩⟩
        case round =>
          clear HRw
          obtain ⟨k, m, hk, hmk, rfl, rfl, rfl, HRw⟩ := hrel
          by_cases hlt3 : k < q
          · obtain ⟨b, off, hao, hc0⟩ := HI1.out.at' k (by rw [HN.out]; exact hlt3)
            cases hao
          · have hkq : k = q := by omega
            subst hkq
            have HW0 := HRw
            have hU0 : w1.heap.size < wr.heap.size := Lib.lt_of_heap HRw.out.2.u
            have hU1 : w1.heap.size + 1 < wr.heap.size := Lib.lt_of_heap HRw.out.2.v
            go_wp2_with fail
            go_loopw [13] (fun ax wx => ∃ a : Nat, 1 ≤ a ∧ ax = .int .i64 (a : Int) ∧ Hid (∃ T : List (ByteArray × Nat), T.Perm (uq ks k) ∧ Rising (T.take a) ∧ Rows w1.heap.size k (nth T) w1 wx)) (fun ax _ => m - (intOf ax).toNat)
            case atStart => exact ⟨1, Nat.le_refl _, rfl, Lib.hid ⟨uq ks k, List.Perm.refl _, rising_one _, HRw.out.2⟩⟩
            case round =>
              clear HRw
              obtain ⟨a, ha1, rfl, HRw⟩ := hrel
              obtain ⟨T, hperm, hrise, hrows⟩ := HRw.out
              have hTl : T.length = m := by rw [HW0.out.1]; exact hperm.length_eq
              have HP := Lib.hid (And.intro hperm (And.intro hrise hTl))
              have HW := Lib.hid hrows
              clear hperm hrise hrows HRw hTl
              by_cases hlt5 : a < m
              · have r0 := HW.out.c0 (i := a) (by omega)
                have r1 := HW.out.c1 (i := a) (by omega)
                go_wp2_with fail
                go_loopw [16] (fun bx wy => ∃ (c : Nat) (bi : Int), c ≤ a ∧ bx = .int .i64 bi ∧ bi = (c : Int) - 1 ∧ Hid (Rows w1.heap.size k (shf T a c) w1 wy) ∧ Hid (∀ i, c ≤ i → i < a → kLt (nth T a) (nth T i))) (fun bx _ => (intOf bx + 1).toNat)
                case atStart => exact ⟨a, _, Nat.le_refl _, rfl, rfl, Lib.hid (HW.out.congr (fun i => (shf_start T a i).symm)), Lib.hid (fun i h1 h2 => by omega)⟩
                case round =>
                  clear HW r0 r1
                  obtain ⟨c, bi, hc, rfl, hbi, HW, HK⟩ := hrel
                  have hlta : a < T.length := by rw [HP.out.2.2]; exact hlt5
                  rcases c with _ | c
                  · obtain rfl : bi = -1 := by omega
                    clear hbi
                    have r0 := HW.out.c0 (i := 0) (by omega)
                    have r1 := HW.out.c1 (i := 0) (by omega)
                    have f0 := HW.out.z0 0
                    have f1 := HW.out.z1 0
                    go_wp2_with fail
                    refine ⟨⟨a + 1, by omega, by go_num, Lib.hid ⟨ins T a (0), (ins_perm T a (0) hc hlta).trans HP.out.1, rising_ins hc hlta HP.out.2.1 (fun i h => by omega) HK.out, ?_⟩⟩, ?_⟩
                    · refine ((HW.out.put0 (j := 0) (x := (nth T a).1)).put1 (j := 0) (k := (nth T a).2)).congr (fun i => ?_)
                      rw [← shf_ins T a (0) i hc hlta]
                      by_cases e : i = 0 <;> simp [e]
                    · simp [intOf]; omega
                  · obtain rfl : bi = (c : Int) := by omega
                    clear hbi
                    have q0 := HW.out.c0 (i := c) (by omega)
                    have q1 := HW.out.c1 (i := c) (by omega)
                    rw [shf_low (Nat.le_succ c)] at q0 q1
                    have r0 := HW.out.c0 (i := c + 1) (by omega)
                    have r1 := HW.out.c1 (i := c + 1) (by omega)
                    have f0 := HW.out.z0 (c + 1)
                    have f1 := HW.out.z1 (c + 1)
                    have hat := apart_perm HP.out.1 (apart_uq ks k)
                    have hnk : (nth T c).1 ≠ (nth T a).1 := by
                      rw [nth_get hlta, nth_get (by omega)]
                      exact List.pairwise_iff_getElem.1 hat c a (by omega) hlta (by omega)
                    have HAT := Lib.hid (And.intro hat hnk)
                    have hne2 : ((nth T c).1.toList == (nth T a).1.toList) = false := by
                      rw [beq_eq_false_iff_ne]
                      intro e
                      exact hnk (ba_ext (by rw [← Lib.toList_data, ← Lib.toList_data]; exact e))
                    clear hat hnk
                    by_cases hgt : kLt (nth T a) (nth T c)
                    · have hb := (bytesLess_not (nth T c) (nth T a)).2 (fun h => kLt_irrefl _ (kLt_trans h hgt))
                      go_wp2_with fail
                      refine ⟨⟨c, _, by omega, rfl, rfl, Lib.hid ?_, Lib.hid (fun i h1 h2 => ?_)⟩, ?_⟩
                      · refine ((HW.out.put0 (j := c + 1) (x := (nth T c).1)).put1 (j := c + 1) (k := (nth T c).2)).congr (fun i => ?_)
                        rw [← shf_step T a c i hc]
                        by_cases e : i = c + 1 <;> simp [e]
                      · by_cases e : i = c
                        · rw [e]; exact hgt
                        · exact HK.out i (by omega) h2
                      · simp [intOf]
                    · have hb := (bytesLess_kLt (nth T c) (nth T a)).2 (kLt_total (fun e => HAT.out.2 e.symm) hgt)
                      go_wp2_with fail
                      refine ⟨⟨a + 1, by omega, by go_num, Lib.hid ⟨ins T a (c + 1), (ins_perm T a (c + 1) hc hlta).trans HP.out.1, rising_ins hc hlta HP.out.2.1 (rising_below (by omega) hlta HP.out.2.1 HAT.out.1 hgt) HK.out, ?_⟩⟩, ?_⟩
                      · refine ((HW.out.put0 (j := c + 1) (x := (nth T a).1)).put1 (j := c + 1) (k := (nth T a).2)).congr (fun i => ?_)
                        rw [← shf_ins T a (c + 1) i hc hlta]
                        by_cases e : i = c + 1 <;> simp [e]
                      · simp [intOf]; omega
              · have htr : Rising T := by
                  have := HP.out.2.1
                  rw [List.take_of_length_le (by rw [HP.out.2.2]; omega)] at this
                  exact this
                have hmt : ∀ x i, (x, i) ∈ T ↔ LastAt ks k x i := fun x i => (HP.out.1.mem_iff).trans (mem_uq ks k x i)
                have hTS : T = S := rising_unique htr HS.out.1 (fun ⟨x, i⟩ => by rw [hmt x i, HS.out.2 x i])
                have hsm : Small T := fun p hp => by
                  obtain ⟨x, i⟩ := p
                  obtain ⟨h1, h2, _⟩ := (hmt x i).1 hp
                  have := gets_out HN.out HR.out i
                  unfold gets at this
                  exact ⟨by rw [← h2]; exact this, by omega⟩
                have HTS := Lib.hid (show t.data.toList = objT T from by rw [hTS]; exact HT.out)
                have HSm := Lib.hid hsm
                have hTl := HP.out.2.2
                clear hTS hmt htr hsm HT HS HP HR
                have hmk3 := make_wantO wr tot hm2
                have HOm := Lib.hid (own_madeO wr tot hm2)
                go_wp2_with (at_builtin; refine app_byteK rfl _ _ rfl wr.heap.size _ _ [] 123 _ _ _ rfl ?cb9 rfl rfl ?co9 ?cB9 ?cl9 ?_)
                case cb9 => simp
                case co9 => exact HOm.out
                case cB9 => simp
                case cl9 => simp
                intro v0 w2 ho hb hk
                have HO := Lib.hid (show Own wr.heap.size v0 ([123] ++ objP T 0) w2 ∧ Below wr.heap.size wr w2 from ⟨by simpa [objP] using ho, ((Below.refl _ _).alloc (Nat.le_refl _) _).trans hb⟩)
                clear ho hb hk hmk3 HOm
                obtain ⟨W3, hW3⟩ : ∃ W, W = wr := ⟨_, rfl⟩
                obtain ⟨B, hBe⟩ : ∃ B, B = W3.heap.size := ⟨_, rfl⟩
                rw [← hW3, ← hBe] at HO
                rw [← hW3] at HW
                have HB := Lib.hid (show W3.heap.size ≤ B from by omega)
                have HBu := Lib.hid (show w1.heap.size ≤ B from by rw [hBe]; exact Nat.le_of_lt (Lib.lt_of_heap HW.out.u))
                have HBl := Lib.hid (Nat.le_of_eq hBe)
                clear hW3 hBe
                go_wp2
                go_loopw [17, 18] (fun out jx wx => ∃ j : Nat, j ≤ m ∧ jx = .int .i64 (j : Int) ∧ Hid (Own B out ([123] ++ objP T j) wx ∧ Below B W3 wx)) (fun _ jx _ => m - (intOf jx).toNat)
                case atStart => exact ⟨0, Nat.zero_le _, rfl, HO⟩
                case round =>
                  clear HO
                  obtain ⟨j, hj, rfl, HO⟩ := hrel
                  have hol := objP_len T HSm.out j (by omega)
                  have HL := Lib.hid (show ([123] ++ objP T j).length ≤ 30000000000 ∧ ([123] ++ objP T j).length + 1 ≤ 30000000000 from by
                    rw [List.length_append, List.length_singleton]
                    omega)
                  have hql := quo_len (nth T j).1
                  by_cases hlt6 : j < m
                  · have hsz := (HSm.out _ (nth_mem (show j < T.length by omega))).1
                    have hq2 := (HSm.out _ (nth_mem (show j < T.length by omega))).2
                    have r0 := cellO_below HO.out.2 HB.out (HW.out.c0 (i := j) (by omega))
                    by_cases hj0 : j = 0
                    · subst hj0
                      have HJ := Lib.hid (show [123] ++ objP T 0 ++ quo (nth T 0).1 ++ [58] ++ Lib.itoa ((nth T 0).2 : Int) = [123] ++ objP T (0 + 1) from by simp [objP, kvT])
                      go_wp2_with fail
                      try go_at_call 24
                      refine (quote_app B _ ([123] ++ objP T 0) _ hsz _ HO.out.1 (Nat.le_trans HBl.out HO.out.2.size) (by have := HL.out; simp only [List.length_append, List.length_singleton] at this ⊢; omega)).mono ?_
                      rintro e w3 ⟨v3, rfl, ho3, hb3⟩
                      have HO3 := Lib.hid (show Own B v3 (([123] ++ objP T 0) ++ quo (nth T 0).1) w3 ∧ Below B W3 w3 from ⟨ho3, HO.out.2.trans hb3⟩)
                      clear ho3 hb3
                      go_wp2_with (at_builtin; refine app_byteK rfl _ _ rfl B _ _ (([123] ++ objP T 0) ++ quo (nth T 0).1) 58 _ _ _ rfl ?cb8 rfl rfl ?co8 ?cB8 ?cl8 ?_)
                      case cb8 => first | rfl | simp
                      case co8 => exact HO3.out.1
                      case cB8 => exact Nat.le_trans HBl.out HO3.out.2.size
                      case cl8 => have := HL.out; simp only [List.length_append, List.length_singleton] at this ⊢; omega
                      intro v4 w4 ho hb hk
                      have HO4 := Lib.hid (show Own B v4 (([123] ++ objP T 0) ++ quo (nth T 0).1 ++ [58]) w4 ∧ Below B W3 w4 from ⟨by first | exact ho | simpa using ho, HO3.out.2.trans hb⟩)
                      clear ho hb hk
                      have r1 := cellO_below HO4.out.2 HB.out (HW.out.c1 (i := 0) (by omega))
                      go_wp2_with fail
                      try go_at_call 19
                      refine (appInt64 B _ _ ((nth T 0).2 : Int) ⟨by omega, by omega⟩ _ HO4.out.1 (Nat.le_trans HBl.out HO4.out.2.size) (by have := HL.out; simp only [List.length_append, List.length_singleton] at this ⊢; omega)).mono ?_
                      rintro e w5 ⟨v5, rfl, ho5, hb5⟩
                      have HO5 := Lib.hid (show Own B v5 ([123] ++ objP T (0 + 1)) w5 ∧ Below B W3 w5 from ⟨by rw [← HJ.out]; exact ho5, HO4.out.2.trans hb5⟩)
                      clear ho5 hb5
                      go_wp2
                      refine ⟨⟨1, by omega, by go_num, HO5⟩, ?_⟩
                      simp [intOf]; omega
                    · have hj1 : (0 : Int) < (j : Int) := by omega
                      have HJ := Lib.hid (show [123] ++ objP T j ++ [44] ++ quo (nth T j).1 ++ [58] ++ Lib.itoa ((nth T j).2 : Int) = [123] ++ objP T (j + 1) from by simp [objP, kvT, hj0])
                      clear hj0
                      go_wp2_with (at_builtin; refine app_byteK rfl _ _ rfl B _ _ ([123] ++ objP T j) 44 _ _ _ rfl ?cb6 rfl rfl ?co6 ?cB6 ?cl6 ?_)
                      case cb6 => first | rfl | simp
                      case co6 => exact HO.out.1
                      case cB6 => exact Nat.le_trans HBl.out HO.out.2.size
                      case cl6 => have := HL.out; omega
                      intro v2 w2 ho hb hk
                      have HO2 := Lib.hid (show Own B v2 ([123] ++ objP T j ++ [44]) w2 ∧ Below B W3 w2 from ⟨by first | exact ho | simpa using ho, HO.out.2.trans hb⟩)
                      clear ho hb hk r0
                      have r0 := cellO_below HO2.out.2 HB.out (HW.out.c0 (i := j) (by omega))
                      go_wp2_with fail
                      try go_at_call 24
                      refine (quote_app B _ ([123] ++ objP T j ++ [44]) _ hsz _ HO2.out.1 (Nat.le_trans HBl.out HO2.out.2.size) (by have := HL.out; simp only [List.length_append, List.length_singleton] at this ⊢; omega)).mono ?_
                      rintro e w3 ⟨v3, rfl, ho3, hb3⟩
                      have HO3 := Lib.hid (show Own B v3 (([123] ++ objP T j ++ [44]) ++ quo (nth T j).1) w3 ∧ Below B W3 w3 from ⟨ho3, HO2.out.2.trans hb3⟩)
                      clear ho3 hb3
                      go_wp2_with (at_builtin; refine app_byteK rfl _ _ rfl B _ _ (([123] ++ objP T j ++ [44]) ++ quo (nth T j).1) 58 _ _ _ rfl ?cb8 rfl rfl ?co8 ?cB8 ?cl8 ?_)
                      case cb8 => first | rfl | simp
                      case co8 => exact HO3.out.1
                      case cB8 => exact Nat.le_trans HBl.out HO3.out.2.size
                      case cl8 => have := HL.out; simp only [List.length_append, List.length_singleton] at this ⊢; omega
                      intro v4 w4 ho hb hk
                      have HO4 := Lib.hid (show Own B v4 (([123] ++ objP T j ++ [44]) ++ quo (nth T j).1 ++ [58]) w4 ∧ Below B W3 w4 from ⟨by first | exact ho | simpa using ho, HO3.out.2.trans hb⟩)
                      clear ho hb hk
                      have r1 := cellO_below HO4.out.2 HB.out (HW.out.c1 (i := j) (by omega))
                      go_wp2_with fail
                      try go_at_call 19
                      refine (appInt64 B _ _ ((nth T j).2 : Int) ⟨by omega, by omega⟩ _ HO4.out.1 (Nat.le_trans HBl.out HO4.out.2.size) (by have := HL.out; simp only [List.length_append, List.length_singleton] at this ⊢; omega)).mono ?_
                      rintro e w5 ⟨v5, rfl, ho5, hb5⟩
                      have HO5 := Lib.hid (show Own B v5 ([123] ++ objP T (j + 1)) w5 ∧ Below B W3 w5 from ⟨by rw [← HJ.out]; exact ho5, HO4.out.2.trans hb5⟩)
                      clear ho5 hb5
                      go_wp2
                      refine ⟨⟨j + 1, by omega, by go_num, HO5⟩, ?_⟩
                      simp [intOf]; omega
                  · have hjm : j = m := by omega
                    go_wp2_with (at_builtin; refine app_byteK rfl _ _ rfl B _ _ ([123] ++ objP T j) 125 _ _ _ rfl ?cb5 rfl rfl ?co5 ?cB5 ?cl5 ?_)
                    case cb5 => first | rfl | simp
                    case co5 => exact HO.out.1
                    case cB5 => exact Nat.le_trans HBl.out HO.out.2.size
                    case cl5 => have := HL.out; omega
                    intro v2 w2 ho hb hk
                    have HO2 := Lib.hid (show Own B v2 (objT T) w2 ∧ Below B W3 w2 from ⟨by unfold objT; rw [hTl]; first | simpa using ho | (rw [← hjm]; simpa using ho), HO.out.2.trans hb⟩)
                    have HLn := Lib.hid (show (objT T).length ≤ 140737488355328 from by
                      have := HL.out
                      unfold objT
                      rw [hTl, ← hjm]
                      simp only [List.length_append, List.length_singleton]
                      simp only [List.length_append, List.length_singleton] at this
                      omega)
                    clear ho hb hk
                    go_wp2_with fail
                    try go_at_call 25
                    refine (sameSB _ t _ _ _ HTS.out HLn.out HO2.out.1).mono ?_
                    rintro e w4 ⟨rfl, nq, rfl⟩
                    go_wp2
                    go_ret
                    refine ⟨rfl, HB1.out.trans ((HW.out.below.mono HB1.out.size).trans ((HO2.out.2.mono (Nat.le_trans HB1.out.size HBu.out)).trans ⟨rfl, rfl, rfl, Nat.le_refl _, fun _ _ => rfl⟩))⟩
  · go_wp2
    go_ret
    exact ⟨rfl, Below.refl _ _⟩
/-- The law, walked. -/
theorem lawO (ao : Option Addr) (cap : Nat) (ks : List ByteArray) (w : World) (hs : StrsArg w ao cap ks) (hm : ks.length ≤ 9223372036854775807) (hb : ∀ s ∈ ks, s.size ≤ 9223372036854775807) (hU : U8 w.heap.size w) (htab : Tab w.heap.size w) :
    Calls Tryz.prog 6 #[.slice ao ks.length cap] w (LawPost w) := by
  cases ao with
  | none => exact lawO_none cap ks w hs hm hb hU htab
  | some a0 => exact lawO_some a0 cap ks w hs hm hb hU htab
end Go.Proofs.YtdkccihoecpcaaaGreatFmt
