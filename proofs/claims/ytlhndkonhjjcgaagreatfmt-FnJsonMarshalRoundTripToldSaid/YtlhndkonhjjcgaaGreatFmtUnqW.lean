/- The law's own reading back of a quoted string, walked. Conditions: the string is well-formed; at most 1048576 bytes. -/
import Derived.Test.YtlhndkonhjjcgaaGreatFmtOwn
import Derived.Test.YtlhndkonhjjcgaaGreatFmtSeq
import Derived.Test.YtlhndkonhjjcgaaGreatFmtEscK
import Derived.Test.YtlhndkonhjjcgaaGreatFmtUnq
import Derived.Laws.MakeOwn
namespace Go.Proofs.YtlhndkonhjjcgaaGreatFmt
open Go.RowKit Go
set_option maxRecDepth 100000 in
theorem hexVal_any (z : Int) (d : Nat) (hz : z = ((hx d).toNat : Int)) (h : d < 16) (w : World) : Calls Tryz.prog 37 #[.int .u8 z] w (Ret (.int .i64 (d : Int)) w) := by
  have hv := hx_val d h
  by_cases h1 : d < 10
  · rw [if_pos h1] at hv
    obtain rfl : z = 48 + (d : Int) := by rw [hz, hv]; push_cast; rfl
    clear hv hz
    go_enter Tryz.func37, Tryz.ntmps37
    go_wp2
    go_ret
    exact ⟨by first | rfl | (congr 2; omega) | (simp; omega), rfl⟩
  · rw [if_neg h1] at hv
    obtain rfl : z = 87 + (d : Int) := by rw [hz, hv]; push_cast; rfl
    clear hv hz
    go_enter Tryz.func37, Tryz.ntmps37
    go_wp2
    go_ret
    exact ⟨by first | rfl | (congr 2; omega) | (simp; omega), rfl⟩
set_option maxRecDepth 100000 in
set_option maxHeartbeats 1600000 in
theorem valid_any (s : ByteArray) (hs : s.size ≤ 1048576) (w : World) : Calls Tryz.prog 10 #[.string s] w (Ret (.bool (okAt s 0)) w) := by
  go_enter Tryz.func10, Tryz.ntmps10
  go_wp2
  go_loop [3] (fun i => ∃ k : Nat, k ≤ s.size ∧ i = .int .i64 (k : Int) ∧ Hid (okAt s k = okAt s 0)) (fun i => s.size - (intOf i).toNat)
  case atStart => exact ⟨0, Nat.zero_le _, rfl, Lib.hid rfl⟩
  case round =>
    obtain ⟨k, hk, rfl, HK⟩ := hrel
    by_cases hlt : k < s.size
    · have hg := get!_at s k hlt
      by_cases ha : (s.get! k).toNat < 128
      · have HN := Lib.hid (show okAt s (k + 1) = okAt s 0 from by rw [← okAt_ascii s k hlt ha]; exact HK.out)
        have i128 : (s[k].toNat : Int) < 128 := by rw [hg] at ha; omega
        clear ha hg
        go_wp2
        go_round
        case rel => exact ⟨k + 1, by omega, by go_num, HN⟩
        case measure => simp [intOf]; omega
      · have hge : 128 ≤ (s.get! k).toNat := by omega
        have i128 : (128 : Int) ≤ (s[k].toNat : Int) := by rw [← hg]; omega
        have hsl := seqLen_any s hs k hlt hge
        have hc := wid_cases s k hlt hge
        by_cases hw : wid s k = 1
        · have HN := Lib.hid (show okAt s 0 = false from by rw [← HK.out]; exact okAt_bad s k hlt hge hw)
          have e : seqN s k = 0 := by unfold seqN; rw [if_pos hw]
          rw [e] at hsl
          have HL := Lib.hid hsl
          clear hsl hw hc e hg hge ha
          go_wp2_with (go_at_call 35; refine (HL.out _).mono ?_; rintro e w' ⟨rfl, rfl⟩)
          go_ret
          exact ⟨ret_bool HN.out.symm, rfl⟩
        · have HN := Lib.hid (show okAt s (k + wid s k) = okAt s 0 from by rw [← okAt_good s k hlt hge hw]; exact HK.out)
          have e : seqN s k = wid s k := by unfold seqN; rw [if_neg hw]
          rw [e] at hsl
          have HL := Lib.hid hsl
          obtain ⟨n, hn⟩ : ∃ n, n = wid s k := ⟨_, rfl⟩
          rw [← hn] at HL HN hc hw
          obtain ⟨m1, m2, m3⟩ : 2 ≤ n ∧ n ≤ 4 ∧ k + n ≤ s.size := by omega
          have nz : ((n : Int) == 0) = false := by rw [beq_eq_false_iff_ne]; omega
          clear hsl hw hc e hg hge ha hn
          go_wp2_with (go_at_call 35; refine (HL.out _).mono ?_; rintro e w' ⟨rfl, rfl⟩)
          go_round
          case rel => exact ⟨k + n, by omega, by go_num, HN⟩
          case measure => simp [intOf]; omega
    · obtain rfl : k = s.size := by omega
      have HN := Lib.hid (show okAt s 0 = true from by rw [← HK.out]; exact okF_out s _ _ (by omega))
      go_wp2
      go_ret
      exact ⟨ret_bool HN.out.symm, rfl⟩
theorem escB_self34 (c : UInt8) (h : escB c = [c]) : c.toNat ≠ 34 ∧ c.toNat ≠ 92 := by
  constructor
  · intro e
    have ec : c = 34 := UInt8.toNat.inj e
    rw [ec] at h
    exact absurd h (by decide)
  · intro e
    have ec : c = 92 := UInt8.toNat.inj e
    rw [ec] at h
    exact absurd h (by decide)
/-- The text as the decoder reads it. -/
theorem text_at {t : ByteArray} {l : List UInt8} (ht : t.data.toList = l) {i : Nat} (h : i < l.length) : ∃ h2 : i < t.size, t[i]'h2 = l[i]'h := by
  subst ht
  exact ⟨by rw [Lib.size_eq]; exact h, rfl⟩
/-- The digits of an escape by number, and what has been read of them. -/
def dgt (a b k : Nat) : Nat := if k = 4 then a else if k = 5 then b else 0
def pvl (a b k : Nat) : Nat := if k ≤ 4 then 0 else if k = 5 then a else a * 16 + b
theorem pvl_step (a b k : Nat) (h1 : 2 ≤ k) (h2 : k < 6) : pvl a b (k + 1) = pvl a b k * 16 + dgt a b k := by
  have h : k = 2 ∨ k = 3 ∨ k = 4 ∨ k = 5 := by omega
  rcases h with rfl | rfl | rfl | rfl <;> simp [pvl, dgt]
theorem pvl_bd (a b k : Nat) (ha : a < 16) (hb : b < 16) : pvl a b k < 256 := by
  unfold pvl
  repeat' split
  all_goals omega
theorem dgt_bd (a b k : Nat) (ha : a < 16) (hb : b < 16) : dgt a b k < 16 := by
  unfold dgt
  repeat' split
  all_goals omega
theorem own_room (w : World) (n : Nat) (hn : n ≤ 140737488355328) : Own w.heap.size (.slice (some ⟨w.heap.size, 0, none⟩) 0 n) [] (w.alloc (.cells (madeCells #[.int .u8 0] n) 5)) :=
  World.ownsRow_made w _ _ (Nat.le_refl _) (by unfold maxLen; omega) (by simp [madeCells])
theorem make_room (w : World) (n : Nat) (hn : n ≤ 7000000) : (Instr.makeSlice 24 (.int .i64 0) (.int .i64 (n : Int))).run Tryz.prog w = .ok (.slice (some ⟨w.heap.size, 0, none⟩) 0 n) (w.alloc (.cells (madeCells #[.int .u8 0] n) 5)) := by
  obtain ⟨i0, hi, hz0, hz1, hz2⟩ := info_parts info_byte
  rw [run_make w 24 5 i0 (.int .u8 0) Tryz.underlying24 hi hz0 .i64 .i64 0 (n : Int) (by omega) (by omega) (by rw [hz2]; omega) (by omega)]
  rw [hz1, Int.toNat_natCast, Nat.mul_one]
  rfl
set_option maxRecDepth 100000 in
set_option maxHeartbeats 6400000 in
theorem unquote_any (s : ByteArray) (hs : s.size ≤ 1048576) (hok : okAt s 0 = true) (t : ByteArray) (ht : t.data.toList = quo s) (w : World) :
    Calls Tryz.prog 12 #[.string t] w fun e w' => ∃ v, e = .returned (.tuple #[v, .bool true]) ∧ Own w.heap.size v s.data.toList w' ∧ Below w.heap.size w w' := by
  have hq := quo_len s
  have hz : t.size = (quo s).length := by rw [Lib.size_eq, ht]
  have U0 := Lib.hid (unq_start s hok)
  have hl0 := unq_len U0.out
  have h2 : 2 ≤ t.size := by omega
  have hb : t.size ≤ 7000000 := by omega
  have p0 : 0 < t.size := by omega
  have p1 : t.size - 1 < t.size := by omega
  have f0 : (t[0]'p0).toNat = 34 := by
    obtain ⟨_, e⟩ := text_at ht (show 0 < (quo s).length from by omega)
    rw [e]; rfl
  have fl : (t[t.size - 1]'p1).toNat = 34 := by
    obtain ⟨_, e⟩ := text_at ht (show t.size - 1 < (quo s).length from by omega)
    rw [e]
    have h3 : (quo s)[t.size - 1]? = some 34 := by
      have e2 : t.size - 1 = (34 :: escAt s 0).length := by
        rw [hz]; unfold quo; simp
      rw [e2]
      unfold quo
      rw [← List.cons_append, List.getElem?_append_right (Nat.le_refl _), Nat.sub_self]
      rfl
    obtain ⟨h4, h5⟩ := List.getElem?_eq_some_iff.1 h3
    rw [h5]; rfl
  have HTL := Lib.hid ht
  have HZ := Lib.hid hz
  have hmk := make_room w t.size hb
  have HOm := Lib.hid (own_room w t.size (by omega))
  have HBm := Lib.hid (show Below w.heap.size w (w.alloc (.cells (madeCells #[.int .u8 0] t.size) 5)) from (Below.refl _ _).alloc (Nat.le_refl _) _)
  have HOK := Lib.hid hok
  clear ht hz hl0 hok hq
  have ix1 : IntKind.i64.wrap ((t.size : Int) - 1) = (t.size : Int) - 1 := IntWalk.i64_in _ (by omega)
  have ix2 : ((t.size : Int) - 1).toNat = t.size - 1 := by omega
  go_enter Tryz.func12, Tryz.ntmps12
  go_wp2
  clear ix1 ix2 f0 fl hmk
  go_loopw [4, 5] (fun out ix wr => ∃ (i j m : Nat), i + 1 ≤ t.size ∧ ix = .int .i64 (i : Int) ∧ Hid (Unq s i j m) ∧ Hid (Own w.heap.size out (sub s 0 j) wr ∧ Below w.heap.size w wr)) (fun _ ix _ => t.size - (intOf ix).toNat)
  case atStart => exact ⟨1, 0, 0, by omega, rfl, U0, Lib.hid ⟨by rw [sub_self]; exact HOm.out, HBm.out⟩⟩
  case round =>
    obtain ⟨i, j, m, hi, rfl, HU, HO⟩ := hrel
    clear HOm HBm U0
    have hjm := HU.out.jm
    have hms := HU.out.ms
    have HLm := Lib.hid (show (sub s 0 j).length + 1 ≤ 140737488355328 from by rw [sub_len s 0 j (by omega) (by omega)]; omega)
    by_cases hlt : j < s.size
    · have HT := Lib.hid (take_next s j hlt)
      -- a byte that stands as it is: what the walk wants
      have hcopy : (∃ h2 : i < t.size, t[i]'h2 = s.get! j ∧ (t[i]'h2).toNat ≠ 34 ∧ (t[i]'h2).toNat ≠ 92 ∧ i + 2 ≤ t.size ∧ ∃ m', Unq s (i + 1) (j + 1) m') ∨ (j = m ∧ (s.get! j).toNat < 128 ∧ escB (s.get! j) ≠ [s.get! j]) := by
        have key : ∀ m', j < m' → Unq s i j m' → ∃ h2 : i < t.size, t[i]'h2 = s.get! j ∧ (t[i]'h2).toNat ≠ 34 ∧ (t[i]'h2).toNat ≠ 92 ∧ i + 2 ≤ t.size ∧ ∃ m', Unq s (i + 1) (j + 1) m' := by
          intro m' hj hu
          obtain ⟨h1, h3, h4, h5, h6⟩ := unq_copy hu hj
          obtain ⟨h7, h8⟩ := text_at HTL.out h1
          have e : t[i]'h7 = s.get! j := by rw [h8, h3]
          exact ⟨h7, e, by rw [e]; omega, by rw [e]; omega, by rw [HZ.out]; omega, m', h6⟩
        by_cases hj : j < m
        · exact .inl (key m hj HU.out)
        · obtain rfl : j = m := by omega
          by_cases ha : (s.get! j).toNat < 128
          · by_cases he : escB (s.get! j) = [s.get! j]
            · obtain ⟨h1, h3, h4⟩ := unq_esc HU.out hlt ha [s.get! j] he
              obtain ⟨h5, h6⟩ := h1 0 (by simp)
              obtain ⟨h7, h8⟩ := text_at HTL.out h5
              have e : t[i]'h7 = s.get! j := by
                have := h8
                simp only [Nat.add_zero] at this h6
                rw [this, h6]; rfl
              have e34 := escB_self34 (s.get! j) he
              refine .inl ⟨h7, e, by rw [e]; exact e34.1, by rw [e]; exact e34.2, ?_, j + 1, h4⟩
              simp only [List.length_singleton] at h3
              rw [HZ.out]; omega
            · exact .inr ⟨rfl, ha, he⟩
          · obtain ⟨h1, h3, h4⟩ := unq_open HU.out hlt (by omega)
            exact .inl (key _ (by omega) h4)
      rcases hcopy with ⟨h7, e, n34, n92, hi2, m', hu⟩ | ⟨rfl, ha, hne⟩
      · have HS := Lib.hid hu
        have HT2 := HT
        clear HT
        have HT := Lib.hid (show sub s 0 j ++ [t[i]'h7] = sub s 0 (j + 1) from by rw [e]; exact HT2.out)
        have m34 : ((t[i].toNat : Int) == 34) = false := by rw [beq_eq_false_iff_ne]; omega
        have m92 : ((t[i].toNat : Int) != 92) = true := by rw [bne_iff_ne]; omega
        clear e n34 n92 hu HT2 HU
        go_wp2_with (at_builtin; refine app_bytes rfl _ _ rfl w.heap.size _ _ (sub s 0 j) [t[i]] _ _ 1 _ rfl rfl ?cb1 rfl rfl ?co1 ?cB1 ?cl1 ?_)
        case cb1 => rfl
        case co1 => exact HO.out.1
        case cB1 => exact HO.out.2.size
        case cl1 => first | exact HLm.out | exact Nat.le_of_succ_le_succ HLm.out
        intro v1 w1 ho hb
        have HX := Lib.hid (show Own w.heap.size v1 (sub s 0 (j + 1)) w1 ∧ Below w.heap.size w w1 from ⟨by rw [← HT.out]; exact ho, HO.out.2.trans hb⟩)
        clear ho hb
        go_wp2
        go_roundw
        case rel => exact ⟨i + 1, j + 1, m', by omega, by go_num, HS, HX⟩
        case measure => simp [intOf]; omega
      · have HU2 := HU
        have hg := get!_at s j hlt
        by_cases e34 : (s.get! j).toNat = 34
        · have ej : s.get! j = 34 := UInt8.toNat.inj e34
          obtain ⟨h1, h3, h4⟩ := unq_esc HU.out hlt ha [92, 34] (by rw [ej]; rfl)
          obtain ⟨g0, g1⟩ := h1 0 (by simp)
          obtain ⟨g2, g3⟩ := h1 1 (by simp)
          obtain ⟨x0, x1⟩ := text_at HTL.out g0
          obtain ⟨x2, x3⟩ := text_at HTL.out g2
          rw [g1] at x1
          rw [g3] at x3
          simp only [Nat.add_zero] at x0 x1
          have t0 : t[i].toNat = 92 := by rw [x1]; rfl
          have t1 : t[i + 1].toNat = 34 := by rw [x3]; rfl
          have hi3 : i + 3 ≤ t.size := by rw [HZ.out]; simp only [List.length_cons, List.length_nil] at h3; omega
          have HS := Lib.hid (show Unq s (i + 2) (j + 1) (j + 1) from h4)
          have HT2 := HT
          clear HT
          have HT := Lib.hid (show sub s 0 j ++ [34] = sub s 0 (j + 1) from by have := HT2.out; rw [ej] at this; exact this)
          clear h1 h3 h4 g1 g3 x1 x3 ej e34 HT2 HU HU2 ha hne hg
          go_wp2_with (at_builtin; refine app_bytes rfl _ _ rfl w.heap.size _ _ (sub s 0 j) [34] _ _ 1 _ rfl rfl ?cb2 rfl rfl ?co2 ?cB2 ?cl2 ?_)
          case cb2 => rfl
          case co2 => exact HO.out.1
          case cB2 => exact HO.out.2.size
          case cl2 => first | exact HLm.out | exact Nat.le_of_succ_le_succ HLm.out
          intro v2 w2 ho hb
          have HX := Lib.hid (show Own w.heap.size v2 (sub s 0 (j + 1)) w2 ∧ Below w.heap.size w w2 from ⟨by rw [← HT.out]; exact ho, HO.out.2.trans hb⟩)
          clear ho hb
          go_wp2
          go_roundw
          case rel => exact ⟨i + 2, j + 1, j + 1, by omega, by go_num, HS, HX⟩
          case measure => simp [intOf]; omega
        by_cases e92 : (s.get! j).toNat = 92
        · have ej : s.get! j = 92 := UInt8.toNat.inj e92
          obtain ⟨h1, h3, h4⟩ := unq_esc HU.out hlt ha [92, 92] (by rw [ej]; rfl)
          obtain ⟨g0, g1⟩ := h1 0 (by simp)
          obtain ⟨g2, g3⟩ := h1 1 (by simp)
          obtain ⟨x0, x1⟩ := text_at HTL.out g0
          obtain ⟨x2, x3⟩ := text_at HTL.out g2
          rw [g1] at x1
          rw [g3] at x3
          simp only [Nat.add_zero] at x0 x1
          have t0 : t[i].toNat = 92 := by rw [x1]; rfl
          have t1 : t[i + 1].toNat = 92 := by rw [x3]; rfl
          have hi3 : i + 3 ≤ t.size := by rw [HZ.out]; simp only [List.length_cons, List.length_nil] at h3; omega
          have HS := Lib.hid (show Unq s (i + 2) (j + 1) (j + 1) from h4)
          have HT2 := HT
          clear HT
          have HT := Lib.hid (show sub s 0 j ++ [92] = sub s 0 (j + 1) from by have := HT2.out; rw [ej] at this; exact this)
          clear h1 h3 h4 g1 g3 x1 x3 ej e92 HT2 HU HU2 ha hne hg
          go_wp2_with (at_builtin; refine app_bytes rfl _ _ rfl w.heap.size _ _ (sub s 0 j) [92] _ _ 1 _ rfl rfl ?cb3 rfl rfl ?co3 ?cB3 ?cl3 ?_)
          case cb3 => rfl
          case co3 => exact HO.out.1
          case cB3 => exact HO.out.2.size
          case cl3 => first | exact HLm.out | exact Nat.le_of_succ_le_succ HLm.out
          intro v3 w3 ho hb
          have HX := Lib.hid (show Own w.heap.size v3 (sub s 0 (j + 1)) w3 ∧ Below w.heap.size w w3 from ⟨by rw [← HT.out]; exact ho, HO.out.2.trans hb⟩)
          clear ho hb
          go_wp2
          go_roundw
          case rel => exact ⟨i + 2, j + 1, j + 1, by omega, by go_num, HS, HX⟩
          case measure => simp [intOf]; omega
        by_cases e8 : (s.get! j).toNat = 8
        · have ej : s.get! j = 8 := UInt8.toNat.inj e8
          obtain ⟨h1, h3, h4⟩ := unq_esc HU.out hlt ha [92, 98] (by rw [ej]; rfl)
          obtain ⟨g0, g1⟩ := h1 0 (by simp)
          obtain ⟨g2, g3⟩ := h1 1 (by simp)
          obtain ⟨x0, x1⟩ := text_at HTL.out g0
          obtain ⟨x2, x3⟩ := text_at HTL.out g2
          rw [g1] at x1
          rw [g3] at x3
          simp only [Nat.add_zero] at x0 x1
          have t0 : t[i].toNat = 92 := by rw [x1]; rfl
          have t1 : t[i + 1].toNat = 98 := by rw [x3]; rfl
          have hi3 : i + 3 ≤ t.size := by rw [HZ.out]; simp only [List.length_cons, List.length_nil] at h3; omega
          have HS := Lib.hid (show Unq s (i + 2) (j + 1) (j + 1) from h4)
          have HT2 := HT
          clear HT
          have HT := Lib.hid (show sub s 0 j ++ [8] = sub s 0 (j + 1) from by have := HT2.out; rw [ej] at this; exact this)
          clear h1 h3 h4 g1 g3 x1 x3 ej e8 HT2 HU HU2 ha hne hg
          go_wp2_with (at_builtin; refine app_bytes rfl _ _ rfl w.heap.size _ _ (sub s 0 j) [8] _ _ 1 _ rfl rfl ?cb4 rfl rfl ?co4 ?cB4 ?cl4 ?_)
          case cb4 => rfl
          case co4 => exact HO.out.1
          case cB4 => exact HO.out.2.size
          case cl4 => first | exact HLm.out | exact Nat.le_of_succ_le_succ HLm.out
          intro v4 w4 ho hb
          have HX := Lib.hid (show Own w.heap.size v4 (sub s 0 (j + 1)) w4 ∧ Below w.heap.size w w4 from ⟨by rw [← HT.out]; exact ho, HO.out.2.trans hb⟩)
          clear ho hb
          go_wp2
          go_roundw
          case rel => exact ⟨i + 2, j + 1, j + 1, by omega, by go_num, HS, HX⟩
          case measure => simp [intOf]; omega
        by_cases e12 : (s.get! j).toNat = 12
        · have ej : s.get! j = 12 := UInt8.toNat.inj e12
          obtain ⟨h1, h3, h4⟩ := unq_esc HU.out hlt ha [92, 102] (by rw [ej]; rfl)
          obtain ⟨g0, g1⟩ := h1 0 (by simp)
          obtain ⟨g2, g3⟩ := h1 1 (by simp)
          obtain ⟨x0, x1⟩ := text_at HTL.out g0
          obtain ⟨x2, x3⟩ := text_at HTL.out g2
          rw [g1] at x1
          rw [g3] at x3
          simp only [Nat.add_zero] at x0 x1
          have t0 : t[i].toNat = 92 := by rw [x1]; rfl
          have t1 : t[i + 1].toNat = 102 := by rw [x3]; rfl
          have hi3 : i + 3 ≤ t.size := by rw [HZ.out]; simp only [List.length_cons, List.length_nil] at h3; omega
          have HS := Lib.hid (show Unq s (i + 2) (j + 1) (j + 1) from h4)
          have HT2 := HT
          clear HT
          have HT := Lib.hid (show sub s 0 j ++ [12] = sub s 0 (j + 1) from by have := HT2.out; rw [ej] at this; exact this)
          clear h1 h3 h4 g1 g3 x1 x3 ej e12 HT2 HU HU2 ha hne hg
          go_wp2_with (at_builtin; refine app_bytes rfl _ _ rfl w.heap.size _ _ (sub s 0 j) [12] _ _ 1 _ rfl rfl ?cb5 rfl rfl ?co5 ?cB5 ?cl5 ?_)
          case cb5 => rfl
          case co5 => exact HO.out.1
          case cB5 => exact HO.out.2.size
          case cl5 => first | exact HLm.out | exact Nat.le_of_succ_le_succ HLm.out
          intro v5 w5 ho hb
          have HX := Lib.hid (show Own w.heap.size v5 (sub s 0 (j + 1)) w5 ∧ Below w.heap.size w w5 from ⟨by rw [← HT.out]; exact ho, HO.out.2.trans hb⟩)
          clear ho hb
          go_wp2
          go_roundw
          case rel => exact ⟨i + 2, j + 1, j + 1, by omega, by go_num, HS, HX⟩
          case measure => simp [intOf]; omega
        by_cases e10 : (s.get! j).toNat = 10
        · have ej : s.get! j = 10 := UInt8.toNat.inj e10
          obtain ⟨h1, h3, h4⟩ := unq_esc HU.out hlt ha [92, 110] (by rw [ej]; rfl)
          obtain ⟨g0, g1⟩ := h1 0 (by simp)
          obtain ⟨g2, g3⟩ := h1 1 (by simp)
          obtain ⟨x0, x1⟩ := text_at HTL.out g0
          obtain ⟨x2, x3⟩ := text_at HTL.out g2
          rw [g1] at x1
          rw [g3] at x3
          simp only [Nat.add_zero] at x0 x1
          have t0 : t[i].toNat = 92 := by rw [x1]; rfl
          have t1 : t[i + 1].toNat = 110 := by rw [x3]; rfl
          have hi3 : i + 3 ≤ t.size := by rw [HZ.out]; simp only [List.length_cons, List.length_nil] at h3; omega
          have HS := Lib.hid (show Unq s (i + 2) (j + 1) (j + 1) from h4)
          have HT2 := HT
          clear HT
          have HT := Lib.hid (show sub s 0 j ++ [10] = sub s 0 (j + 1) from by have := HT2.out; rw [ej] at this; exact this)
          clear h1 h3 h4 g1 g3 x1 x3 ej e10 HT2 HU HU2 ha hne hg
          go_wp2_with (at_builtin; refine app_bytes rfl _ _ rfl w.heap.size _ _ (sub s 0 j) [10] _ _ 1 _ rfl rfl ?cb6 rfl rfl ?co6 ?cB6 ?cl6 ?_)
          case cb6 => rfl
          case co6 => exact HO.out.1
          case cB6 => exact HO.out.2.size
          case cl6 => first | exact HLm.out | exact Nat.le_of_succ_le_succ HLm.out
          intro v6 w6 ho hb
          have HX := Lib.hid (show Own w.heap.size v6 (sub s 0 (j + 1)) w6 ∧ Below w.heap.size w w6 from ⟨by rw [← HT.out]; exact ho, HO.out.2.trans hb⟩)
          clear ho hb
          go_wp2
          go_roundw
          case rel => exact ⟨i + 2, j + 1, j + 1, by omega, by go_num, HS, HX⟩
          case measure => simp [intOf]; omega
        by_cases e13 : (s.get! j).toNat = 13
        · have ej : s.get! j = 13 := UInt8.toNat.inj e13
          obtain ⟨h1, h3, h4⟩ := unq_esc HU.out hlt ha [92, 114] (by rw [ej]; rfl)
          obtain ⟨g0, g1⟩ := h1 0 (by simp)
          obtain ⟨g2, g3⟩ := h1 1 (by simp)
          obtain ⟨x0, x1⟩ := text_at HTL.out g0
          obtain ⟨x2, x3⟩ := text_at HTL.out g2
          rw [g1] at x1
          rw [g3] at x3
          simp only [Nat.add_zero] at x0 x1
          have t0 : t[i].toNat = 92 := by rw [x1]; rfl
          have t1 : t[i + 1].toNat = 114 := by rw [x3]; rfl
          have hi3 : i + 3 ≤ t.size := by rw [HZ.out]; simp only [List.length_cons, List.length_nil] at h3; omega
          have HS := Lib.hid (show Unq s (i + 2) (j + 1) (j + 1) from h4)
          have HT2 := HT
          clear HT
          have HT := Lib.hid (show sub s 0 j ++ [13] = sub s 0 (j + 1) from by have := HT2.out; rw [ej] at this; exact this)
          clear h1 h3 h4 g1 g3 x1 x3 ej e13 HT2 HU HU2 ha hne hg
          go_wp2_with (at_builtin; refine app_bytes rfl _ _ rfl w.heap.size _ _ (sub s 0 j) [13] _ _ 1 _ rfl rfl ?cb7 rfl rfl ?co7 ?cB7 ?cl7 ?_)
          case cb7 => rfl
          case co7 => exact HO.out.1
          case cB7 => exact HO.out.2.size
          case cl7 => first | exact HLm.out | exact Nat.le_of_succ_le_succ HLm.out
          intro v7 w7 ho hb
          have HX := Lib.hid (show Own w.heap.size v7 (sub s 0 (j + 1)) w7 ∧ Below w.heap.size w w7 from ⟨by rw [← HT.out]; exact ho, HO.out.2.trans hb⟩)
          clear ho hb
          go_wp2
          go_roundw
          case rel => exact ⟨i + 2, j + 1, j + 1, by omega, by go_num, HS, HX⟩
          case measure => simp [intOf]; omega
        by_cases e9 : (s.get! j).toNat = 9
        · have ej : s.get! j = 9 := UInt8.toNat.inj e9
          obtain ⟨h1, h3, h4⟩ := unq_esc HU.out hlt ha [92, 116] (by rw [ej]; rfl)
          obtain ⟨g0, g1⟩ := h1 0 (by simp)
          obtain ⟨g2, g3⟩ := h1 1 (by simp)
          obtain ⟨x0, x1⟩ := text_at HTL.out g0
          obtain ⟨x2, x3⟩ := text_at HTL.out g2
          rw [g1] at x1
          rw [g3] at x3
          simp only [Nat.add_zero] at x0 x1
          have t0 : t[i].toNat = 92 := by rw [x1]; rfl
          have t1 : t[i + 1].toNat = 116 := by rw [x3]; rfl
          have hi3 : i + 3 ≤ t.size := by rw [HZ.out]; simp only [List.length_cons, List.length_nil] at h3; omega
          have HS := Lib.hid (show Unq s (i + 2) (j + 1) (j + 1) from h4)
          have HT2 := HT
          clear HT
          have HT := Lib.hid (show sub s 0 j ++ [9] = sub s 0 (j + 1) from by have := HT2.out; rw [ej] at this; exact this)
          clear h1 h3 h4 g1 g3 x1 x3 ej e9 HT2 HU HU2 ha hne hg
          go_wp2_with (at_builtin; refine app_bytes rfl _ _ rfl w.heap.size _ _ (sub s 0 j) [9] _ _ 1 _ rfl rfl ?cb8 rfl rfl ?co8 ?cB8 ?cl8 ?_)
          case cb8 => rfl
          case co8 => exact HO.out.1
          case cB8 => exact HO.out.2.size
          case cl8 => first | exact HLm.out | exact Nat.le_of_succ_le_succ HLm.out
          intro v8 w8 ho hb
          have HX := Lib.hid (show Own w.heap.size v8 (sub s 0 (j + 1)) w8 ∧ Below w.heap.size w w8 from ⟨by rw [← HT.out]; exact ho, HO.out.2.trans hb⟩)
          clear ho hb
          go_wp2
          go_roundw
          case rel => exact ⟨i + 2, j + 1, j + 1, by omega, by go_num, HS, HX⟩
          case measure => simp [intOf]; omega
        have hctl : (s.get! j).toNat < 32 ∨ (s.get! j).toNat = 127 := by
          rcases Nat.lt_or_ge (s.get! j).toNat 32 with h | h
          · exact .inl h
          · rcases Nat.lt_or_ge (s.get! j).toNat 127 with h' | h'
            · exact absurd (escB_plain _ h h' e34 e92) hne
            · exact .inr (by omega)
        obtain ⟨a, ha'⟩ : ∃ a, a = (s.get! j).toNat / 16 := ⟨_, rfl⟩
        obtain ⟨b, hb'⟩ : ∃ b, b = (s.get! j).toNat % 16 := ⟨_, rfl⟩
        have a16 : a < 8 := by omega
        have b16 : b < 16 := by omega
        obtain ⟨h1, h3, h4⟩ := unq_esc HU.out hlt ha [92, 117, 48, 48, hx a, hx b] (by
          rw [ha', hb']
          rcases hctl with h | h
          · exact escB_ctl _ h e8 e12 e10 e13 e9
          · have ej : s.get! j = 127 := UInt8.toNat.inj h
            rw [ej]; rfl)
        obtain ⟨g0, g1⟩ := h1 0 (by simp)
        obtain ⟨g2, g3⟩ := h1 1 (by simp)
        obtain ⟨x0, x1⟩ := text_at HTL.out g0
        obtain ⟨x2, x3⟩ := text_at HTL.out g2
        rw [g1] at x1
        rw [g3] at x3
        simp only [Nat.add_zero] at x0 x1
        have t0 : t[i].toNat = 92 := by rw [x1]; rfl
        have t1 : t[i + 1].toNat = 117 := by rw [x3]; rfl
        have HD := Lib.hid (show ∀ k, 2 ≤ k → k < 6 → ∃ h : i + k < t.size, t[i + k]'h = hx (dgt a b k) from fun k k1 k2 => by
          obtain ⟨y0, y1⟩ := h1 k (by simp; omega)
          obtain ⟨y2, y3⟩ := text_at HTL.out y0
          refine ⟨y2, ?_⟩
          rw [y3, y1]
          have h : k = 2 ∨ k = 3 ∨ k = 4 ∨ k = 5 := by omega
          rcases h with rfl | rfl | rfl | rfl <;> rfl)
        have hi3 : i + 7 ≤ t.size := by rw [HZ.out]; simp only [List.length_cons, List.length_nil] at h3; omega
        have HS := Lib.hid (show Unq s (i + 6) (j + 1) (j + 1) from h4)
        have hv : (s.get! j).toNat = a * 16 + b := by omega
        have HT2 := HT
        clear HT
        have HT := Lib.hid (show sub s 0 j ++ [UInt8.ofNat (a * 16 + b)] = sub s 0 (j + 1) from by
          have := HT2.out
          rw [← hv]
          rw [show UInt8.ofNat (s.get! j).toNat = s.get! j from UInt8.ofNat_toNat]
          exact this)
        have HA := Lib.hid (show a * 16 + b < 128 from by omega)
        clear h1 h3 h4 g1 g3 x1 x3 HT2 HU HU2 hne hg e34 e92 e8 e12 e10 e13 e9 hctl ha' hb' hv ha
        have hil : decide ((i : Int) < (t.size : Int) - 1) = true := by rw [decide_eq_true_eq]; omega
        go_wp2
        go_loop [9, 10] (fun vv kk => ∃ k : Nat, 2 ≤ k ∧ k ≤ 6 ∧ kk = .int .i64 (k : Int) ∧ vv = .int .i64 (pvl a b k : Int)) (fun _ kk => 6 - (intOf kk).toNat)
        case atStart => exact ⟨2, by omega, by omega, rfl, rfl⟩
        case round =>
          obtain ⟨k, hk1, hk2, rfl, rfl⟩ := hrel
          by_cases hk : k < 6
          · obtain ⟨y0, y1⟩ := HD.out k hk1 hk
            have HV := Lib.hid (hexVal_any ((t[i + k].toNat : Nat) : Int) (dgt a b k) (by rw [y1]) (dgt_bd a b k (by omega) b16))
            have hp := pvl_bd a b k (by omega) b16
            have hd := dgt_bd a b k (by omega) b16
            have HP := Lib.hid (pvl_step a b k hk1 hk)
            clear y1
            generalize pvl a b k = pk at *
            generalize dgt a b k = dk at *
            have nd : decide ((dk : Int) < 0) = false := by rw [decide_eq_false_iff_not]; omega
            go_wp2_with (go_at_call 37; refine (HV.out _).mono ?_; rintro e w' ⟨rfl, rfl⟩)
            go_round
            case rel => exact ⟨k + 1, by omega, by omega, by go_num, by rw [HP.out]; go_num⟩
            case measure => simp [intOf]; omega
          · obtain rfl : k = 6 := by omega
            have hp : pvl a b 6 = a * 16 + b := rfl
            rw [hp]
            clear hp
            have hva := HA.out
            obtain ⟨c, hc⟩ : ∃ c : UInt8, c = UInt8.ofNat (a * 16 + b) := ⟨_, rfl⟩
            have hcn : c.toNat = a * 16 + b := by rw [hc]; simp; omega
            rw [← hcn]
            have HT2 := HT
            clear HT
            have HT := Lib.hid (show sub s 0 j ++ [c] = sub s 0 (j + 1) from by rw [hc]; exact HT2.out)
            have hc128 : (c.toNat : Int) < 128 := by rw [hcn]; omega
            clear HT2 hc hcn hva HA
            go_wp2_with (at_builtin; refine app_bytes rfl _ _ rfl w.heap.size _ _ (sub s 0 j) [c] _ _ 1 _ rfl rfl ?cb9 rfl rfl ?co9 ?cB9 ?cl9 ?_)
            case cb9 => rfl
            case co9 => exact HO.out.1
            case cB9 => exact HO.out.2.size
            case cl9 => first | exact HLm.out | exact Nat.le_of_succ_le_succ HLm.out
            intro v9 w9 ho hb
            have HX := Lib.hid (show Own w.heap.size v9 (sub s 0 (j + 1)) w9 ∧ Below w.heap.size w w9 from ⟨by rw [← HT.out]; exact ho, HO.out.2.trans hb⟩)
            clear ho hb
            go_wp2
            go_roundw
            case rel => exact ⟨i + 6, j + 1, j + 1, by omega, by go_num, HS, HX⟩
            case measure => simp [intOf]; omega
    · obtain rfl : j = s.size := by omega
      obtain rfl : m = s.size := by omega
      have he := unq_done HU.out
      have hie : i + 1 = t.size := by rw [HZ.out]; exact he
      have hil : decide ((i : Int) < (t.size : Int) - 1) = false := by rw [decide_eq_false_iff_not]; omega
      have HA := Lib.hid (sub_all s)
      clear he hie
      go_wp2
      go_ret2
      exact ⟨_, rfl, by rw [← HA.out]; exact HO.out.1, HO.out.2⟩
end Go.Proofs.YtlhndkonhjjcgaaGreatFmt
