/- An array of ints, encoded: the law walked. Conditions: the table of powers of ten lies as the row lists it. -/
import Derived.Test.YtfmjeacjfnlhiaaGreatFmtEncArr
import Derived.Test.YtfmjeacjfnlhiaaGreatFmtAppI
import Derived.WalkSpells
namespace Go.Proofs.YtfmjeacjfnlhiaaGreatFmt
open Go.RowKit Go
def LawPost (w : World) (e : Ending) (w' : World) : Prop := e = .returned (.bool true) ∧ Below w.heap.size w w'
set_option maxRecDepth 100000 in
theorem bytesE_yes (ao : Option Addr) (n cap : Nat) (hn : n ≤ 1048576) (w : World) : Calls Tryz.prog 28 #[.slice ao n cap] w (Ret (.bool true) w) := by
  go_enter Tryz.func28, Tryz.ntmps28
  go_wp2
  go_ret
  exact ⟨rfl, rfl⟩
set_option maxRecDepth 100000 in
theorem bytesE_no (ao : Option Addr) (n cap : Nat) (h1 : 1048576 < n) (h2 : n ≤ 9223372036854775807) (w : World) : Calls Tryz.prog 28 #[.slice ao n cap] w (Ret (.bool false) w) := by
  go_enter Tryz.func28, Tryz.ntmps28
  go_wp2
  go_ret
  exact ⟨rfl, rfl⟩
/-- What stands behind the copy: the law goes on with a slice that reads as the ints. -/
theorem copied_arg (w : World) (zs : List Int) : IntsArg (w.alloc (.cells (copied zs zs.length) 3)) (some ⟨w.heap.size, 0, none⟩) zs.length zs :=
  ⟨fun h => by simp at h, fun k hk => ⟨_, _, rfl, by rw [cell_new, copied_all zs k hk]⟩⟩
theorem make_want (w : World) (n : Nat) (hn : n ≤ 65536) : (Instr.makeSlice 41 (.int .i64 0) (.int .i64 (2 + 21 * (n : Int)))).run Tryz.prog w = .ok (.slice (some ⟨w.heap.size, 0, none⟩) 0 (2 + 21 * n)) (w.alloc (.cells (madeCells #[.int .u8 0] (2 + 21 * n)) 5)) := by
  obtain ⟨i0, hi, hz0, hz1, hz2⟩ := info_parts info_byte
  rw [run_make w 41 5 i0 (.int .u8 0) Tryz.underlying41 hi hz0 .i64 .i64 0 (2 + 21 * (n : Int)) (by omega) (by omega) (by rw [hz2]; omega) (by omega)]
  rw [hz1, show (2 + 21 * (n : Int)).toNat = 2 + 21 * n from by omega, Nat.mul_one]
  rfl
theorem own_made (w : World) (n : Nat) (hn : n ≤ 65536) : Own w.heap.size (.slice (some ⟨w.heap.size, 0, none⟩) 0 (2 + 21 * n)) [] (w.alloc (.cells (madeCells #[.int .u8 0] (2 + 21 * n)) 5)) :=
  World.ownsRow_made w _ _ (Nat.le_refl _) (by unfold maxLen; omega) (by simp [madeCells])
set_option maxRecDepth 100000 in
set_option maxHeartbeats 6400000 in
theorem lawE (ao : Option Addr) (cap : Nat) (zs : List Int) (w : World) (hs : IntsArg w ao cap zs) (hm : zs.length ≤ 9223372036854775807) (hb : ∀ z ∈ zs, -9223372036854775808 ≤ z ∧ z ≤ 9223372036854775807) (htab : Tab w.heap.size w) : Calls Tryz.prog 10 #[.slice ao zs.length cap] w (LawPost w) := by
  by_cases h1 : zs.length ≤ 1048576
  · have HY := Lib.hid (bytesE_yes ao zs.length cap h1)
    by_cases hz : zs.length ≤ 65536
    · cases hao : ao with
      | none =>
        have hcap := (hs.nil hao).2
        subst hcap
        subst hao
        as_aux_lemma =>
        have HI := Lib.hid hs
        have HBe := Lib.hid (Below.refl w.heap.size w)
        have Hb := Lib.hid hb
        have Htab := Lib.hid htab
        clear hs hb htab hm
        generalize hn : zs.length = n at *
        have Hz := Lib.hid hn
        clear hn h1
        have hnil := fun wx n' c' => Go.run_neq_slice_nil_any (P := Tryz.prog) wx 38 3 none n 0 n' c' Tryz.underlying38
        go_enter Tryz.func10, Tryz.ntmps10
        go_wp2_with (go_at_call 28; refine (HY.out _).mono ?_; rintro e w' ⟨rfl, rfl⟩)
        have HZ := Lib.hid (zzE none 0 zs w (by rw [Hz.out]; exact hz) Hb.out HI.out (tab_up (tab_below Htab.out HBe.out) HBe.out.size (Nat.le_refl _)))
        rw [Hz.out] at HZ
        try go_at_call 29
        refine HZ.out.mono ?_
        rintro e w1 ⟨rfl, hb1⟩
        have HI1 := Lib.hid (HI.out.below hb1)
        have HB1 := Lib.hid (show Below w.heap.size w w1 from HBe.out.trans (hb1.mono HBe.out.size))
        clear hb1 HZ HI HBe
        obtain ⟨t, ht⟩ : ∃ t : ByteArray, t = ⟨([91] ++ jo zs n ++ [93]).toArray⟩ := ⟨_, rfl⟩
        have HT := Lib.hid (show t.data.toList = [91] ++ jo zs n ++ [93] from by rw [ht])
        rw [← ht]
        clear ht
        have hmk2 := make_want w1 n hz
        have HOm := Lib.hid (own_made w1 n hz)
        go_wp2_with (at_builtin; refine app_byteK rfl _ _ rfl w1.heap.size _ _ [] 91 _ _ _ rfl ?cb9 rfl rfl ?co9 ?cB9 ?cl9 ?_)
        case cb9 => simp
        case co9 => exact HOm.out
        case cB9 => simp
        case cl9 => simp
        intro v0 w2 ho hb hk
        have HO := Lib.hid (show Own w1.heap.size v0 ([91] ++ jo zs 0) w2 ∧ Below w1.heap.size w1 w2 from ⟨by simpa [jo] using ho, ((Below.refl _ _).alloc (Nat.le_refl _) _).trans hb⟩)
        clear ho hb hk hmk2 HOm
        go_wp2
        go_loopw [6, 7] (fun out ix wr => ∃ j : Nat, j ≤ n ∧ ix = .int .i64 (j : Int) ∧ Hid (Own w1.heap.size out ([91] ++ jo zs j) wr ∧ Below w1.heap.size w1 wr)) (fun _ ix _ => n - (intOf ix).toNat)
        case atStart => exact ⟨0, Nat.zero_le _, rfl, HO⟩
        case round =>
          clear HO
          obtain ⟨q, hq, rfl, HO⟩ := hrel
          have HL := Lib.hid (show ([91] ++ jo zs q).length + 100 ≤ 140737488355000 from by
            have := jo_len zs Hb.out q (by rw [Hz.out]; exact hq)
            rw [List.length_append, List.length_singleton]
            omega)
          by_cases hlt : q < n
          · obtain ⟨b, off, hao, hc0⟩ := HI1.out.at' q (by rw [Hz.out]; exact hlt)
            cases hao
          · have hqn : q = n := by omega
            go_wp2_with (at_builtin; refine app_byteK rfl _ _ rfl w1.heap.size _ _ ([91] ++ jo zs q) 93 _ _ _ rfl ?cb7 rfl rfl ?co7 ?cB7 ?cl7 ?_)
            case cb7 => first | rfl | simp
            case co7 => exact HO.out.1
            case cB7 => exact HO.out.2.size
            case cl7 => have := HL.out; omega
            intro v2 w3 ho hb hk
            have HO2 := Lib.hid (show Own w1.heap.size v2 ([91] ++ jo zs n ++ [93]) w3 ∧ Below w1.heap.size w1 w3 from ⟨by first | (rw [← hqn]; simpa using ho) | simpa using ho, HO.out.2.trans hb⟩)
            have HLn := Lib.hid (show ([91] ++ jo zs n ++ [93]).length ≤ 140737488355328 from by rw [← hqn]; have := HL.out; rw [List.length_append, List.length_singleton]; omega)
            clear ho hb hk
            go_wp2_with fail
            try go_at_call 31
            refine (sameSB _ t _ _ _ HT.out HLn.out HO2.out.1).mono ?_
            rintro e w4 ⟨rfl, nq, rfl⟩
            go_wp2
            go_ret
            exact ⟨rfl, HB1.out.trans ((HO2.out.2.mono HB1.out.size).trans ⟨rfl, rfl, rfl, Nat.le_refl _, fun _ _ => rfl⟩)⟩
      | some a0 =>
        subst hao
        as_aux_lemma =>
        have hmk := makeInts_any w zs.length zs rfl h1
        have Hs := Lib.hid hs.at'
        have Hb := Lib.hid hb
        have Htab := Lib.hid htab
        have HF := Lib.hid (copied_arg w zs)
        have HBe := Lib.hid (show Below w.heap.size w (w.alloc (.cells (copied zs zs.length) 3)) from (Below.refl _ _).alloc (Nat.le_refl _) _)
        clear hs hb htab hm
        generalize hn : zs.length = n at *
        have Hz := Lib.hid hn
        clear hn h1
        have hnil := fun wx n' c' => Go.run_neq_slice_nil_any (P := Tryz.prog) wx 38 3 (some a0) n cap n' c' Tryz.underlying38
        go_enter Tryz.func10, Tryz.ntmps10
        go_wp2_with (go_at_call 28; refine (HY.out _).mono ?_; rintro e w' ⟨rfl, rfl⟩)
        go_loopw [4] (fun ix wr => ∃ k : Nat, k ≤ n ∧ ix = .int .i64 (k : Int) ∧ wr = w.alloc (.cells (copied zs k) 3)) (fun ix _ => n - (intOf ix).toNat)
        case atStart => exact ⟨0, Nat.zero_le _, rfl, rfl⟩
        case round =>
          obtain ⟨k, hk, rfl, rfl⟩ := hrel
          by_cases hlt : k < n
          · obtain ⟨b, off, hao, hc⟩ := Hs.out k hlt
            cases hao
            have hb : b < w.heap.size := World.block_lt_of_cell? _ _ hc
            have hset := copied_set zs k (by rw [Hz.out]; exact hlt)
            have hget := copied_get zs k (by rw [Hz.out]; exact hlt)
            clear hmk
            go_wp2
            go_roundw
            case rel => exact ⟨k + 1, by omega, by go_num, rfl⟩
            case measure => simp [intOf]; omega
          · obtain rfl : k = n := by omega
            clear hmk
            have HI := Lib.hid (show IntsArg (w.alloc (.cells (copied zs k) 3)) (some ⟨w.heap.size, 0, none⟩) k zs from HF.out)
            clear HF
            generalize w.alloc (.cells (copied zs k) 3) = W at HI HBe ⊢
            go_wp2_with fail
            have HZ := Lib.hid (zzE (some ⟨w.heap.size, 0, none⟩) k zs W (by rw [Hz.out]; exact hz) Hb.out HI.out (tab_up (tab_below Htab.out HBe.out) HBe.out.size (Nat.le_refl _)))
            rw [Hz.out] at HZ
            try go_at_call 29
            refine HZ.out.mono ?_
            rintro e w1 ⟨rfl, hb1⟩
            have HI1 := Lib.hid (HI.out.below hb1)
            have HB1 := Lib.hid (show Below w.heap.size w w1 from HBe.out.trans (hb1.mono HBe.out.size))
            clear hb1 HZ HI HBe
            obtain ⟨t, ht⟩ : ∃ t : ByteArray, t = ⟨([91] ++ jo zs k ++ [93]).toArray⟩ := ⟨_, rfl⟩
            have HT := Lib.hid (show t.data.toList = [91] ++ jo zs k ++ [93] from by rw [ht])
            rw [← ht]
            clear ht
            have hmk2 := make_want w1 k hz
            have HOm := Lib.hid (own_made w1 k hz)
            go_wp2_with (at_builtin; refine app_byteK rfl _ _ rfl w1.heap.size _ _ [] 91 _ _ _ rfl ?cb9 rfl rfl ?co9 ?cB9 ?cl9 ?_)
            case cb9 => simp
            case co9 => exact HOm.out
            case cB9 => simp
            case cl9 => simp
            intro v0 w2 ho hb hk
            have HO := Lib.hid (show Own w1.heap.size v0 ([91] ++ jo zs 0) w2 ∧ Below w1.heap.size w1 w2 from ⟨by simpa [jo] using ho, ((Below.refl _ _).alloc (Nat.le_refl _) _).trans hb⟩)
            clear ho hb hk hmk2 HOm
            go_wp2
            go_loopw [6, 7] (fun out ix wr => ∃ j : Nat, j ≤ k ∧ ix = .int .i64 (j : Int) ∧ Hid (Own w1.heap.size out ([91] ++ jo zs j) wr ∧ Below w1.heap.size w1 wr)) (fun _ ix _ => k - (intOf ix).toNat)
            case atStart => exact ⟨0, Nat.zero_le _, rfl, HO⟩
            case round =>
              clear HO
              obtain ⟨q, hq, rfl, HO⟩ := hrel
              have HL := Lib.hid (show ([91] ++ jo zs q).length + 100 ≤ 140737488355000 from by
                have := jo_len zs Hb.out q (by rw [Hz.out]; exact hq)
                rw [List.length_append, List.length_singleton]
                omega)
              by_cases hlt : q < k
              · obtain ⟨b, off, hao, hc0⟩ := HI1.out.at' q (by rw [Hz.out]; exact hlt)
                cases hao
                have hc := cell_below HO.out.2 (Nat.le_refl _) hc0
                clear hc0
                have HV := Lib.hid (geti_bd Hb.out q (by rw [Hz.out]; exact hlt))
                by_cases hq0 : q = 0
                · subst hq0
                  have HJ := Lib.hid (show ([91] ++ jo zs 0) ++ Lib.itoa (geti zs 0) = [91] ++ jo zs 1 from by simp [jo])
                  go_wp2_with fail
                  try go_at_call 30
                  refine (appInt64 w1.heap.size _ _ (geti zs 0) HV.out _ HO.out.1 HO.out.2.size (by have := HL.out; omega)).mono ?_
                  rintro e w3 ⟨v3, rfl, ho3, hb3⟩
                  have HO3 := Lib.hid (show Own w1.heap.size v3 ([91] ++ jo zs 1) w3 ∧ Below w1.heap.size w1 w3 from ⟨by rw [← HJ.out]; exact ho3, HO.out.2.trans hb3⟩)
                  clear ho3 hb3
                  go_wp2
                  go_roundw
                  case rel => exact ⟨1, by omega, by go_num, HO3⟩
                  case measure => simp [intOf]; omega
                · have hk1 : (0 : Int) < (q : Int) := by omega
                  have HJ := Lib.hid (show ([91] ++ jo zs q ++ [44]) ++ Lib.itoa (geti zs q) = [91] ++ jo zs (q + 1) from by simp [jo, hq0])
                  clear hq0
                  go_wp2_with (at_builtin; refine app_byteK rfl _ _ rfl w1.heap.size _ _ ([91] ++ jo zs q) 44 _ _ _ rfl ?cb8 rfl rfl ?co8 ?cB8 ?cl8 ?_)
                  case cb8 => first | rfl | simp
                  case co8 => exact HO.out.1
                  case cB8 => exact HO.out.2.size
                  case cl8 => have := HL.out; omega
                  intro v2 w3 ho hb hk
                  have HO2 := Lib.hid (show Own w1.heap.size v2 ([91] ++ jo zs q ++ [44]) w3 ∧ Below w1.heap.size w1 w3 from ⟨ho, HO.out.2.trans hb⟩)
                  clear ho hb hk
                  obtain ⟨b', off', hao', hc0'⟩ := HI1.out.at' q (by rw [Hz.out]; exact hlt)
                  cases hao'
                  have hc3 := cell_below HO2.out.2 (Nat.le_refl _) hc0'
                  clear hc0' hc
                  simp only [Nat.zero_add] at hc3
                  go_wp2_with fail
                  try go_at_call 30
                  refine (appInt64 w1.heap.size _ _ (geti zs q) HV.out _ HO2.out.1 HO2.out.2.size (by have := HL.out; rw [List.length_append, List.length_singleton]; omega)).mono ?_
                  rintro e w4 ⟨v3, rfl, ho3, hb3⟩
                  have HO3 := Lib.hid (show Own w1.heap.size v3 ([91] ++ jo zs (q + 1)) w4 ∧ Below w1.heap.size w1 w4 from ⟨by rw [← HJ.out]; exact ho3, HO2.out.2.trans hb3⟩)
                  clear ho3 hb3
                  go_wp2
                  go_roundw
                  case rel => exact ⟨q + 1, by omega, by go_num, HO3⟩
                  case measure => simp [intOf]; omega
              · have hqn : q = k := by omega
                go_wp2_with (at_builtin; refine app_byteK rfl _ _ rfl w1.heap.size _ _ ([91] ++ jo zs q) 93 _ _ _ rfl ?cb7 rfl rfl ?co7 ?cB7 ?cl7 ?_)
                case cb7 => first | rfl | simp
                case co7 => exact HO.out.1
                case cB7 => exact HO.out.2.size
                case cl7 => have := HL.out; omega
                intro v2 w3 ho hb hk
                have HO2 := Lib.hid (show Own w1.heap.size v2 ([91] ++ jo zs k ++ [93]) w3 ∧ Below w1.heap.size w1 w3 from ⟨by first | (rw [← hqn]; simpa using ho) | simpa using ho, HO.out.2.trans hb⟩)
                have HLn := Lib.hid (show ([91] ++ jo zs k ++ [93]).length ≤ 140737488355328 from by rw [← hqn]; have := HL.out; rw [List.length_append, List.length_singleton]; omega)
                clear ho hb hk
                go_wp2_with fail
                try go_at_call 31
                refine (sameSB _ t _ _ _ HT.out HLn.out HO2.out.1).mono ?_
                rintro e w4 ⟨rfl, nq, rfl⟩
                go_wp2
                go_ret
                exact ⟨rfl, HB1.out.trans ((HO2.out.2.mono HB1.out.size).trans ⟨rfl, rfl, rfl, Nat.le_refl _, fun _ _ => rfl⟩)⟩
    · have hz2 : 65536 < zs.length := by omega
      clear hs hb htab hm
      generalize zs.length = n at *
      go_enter Tryz.func10, Tryz.ntmps10
      go_wp2_with (go_at_call 28; refine (HY.out _).mono ?_; rintro e w' ⟨rfl, rfl⟩)
      go_ret
      exact ⟨rfl, Below.refl _ _⟩
  · have HY := Lib.hid (bytesE_no ao zs.length cap (by omega) hm)
    clear hs hb htab
    generalize zs.length = n at *
    go_enter Tryz.func10, Tryz.ntmps10
    go_wp2_with (go_at_call 28; refine (HY.out _).mono ?_; rintro e w' ⟨rfl, rfl⟩)
    go_ret
    exact ⟨rfl, Below.refl _ _⟩
end Go.Proofs.YtfmjeacjfnlhiaaGreatFmt
