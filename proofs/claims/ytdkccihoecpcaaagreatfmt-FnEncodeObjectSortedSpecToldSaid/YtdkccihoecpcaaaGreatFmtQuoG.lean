/- The law's own escape of a string, appended to a row that holds something already. Conditions: at most 1048576 bytes. -/
import Derived.Test.YtdkccihoecpcaaaGreatFmtOwn
import Derived.Test.YtdkccihoecpcaaaGreatFmtSeq
import Derived.Test.YtdkccihoecpcaaaGreatFmtEscK
import Derived.Deep.RegionWith
namespace Go.Proofs.YtdkccihoecpcaaaGreatFmt
open Go.RowKit Go
/-- What stands in the row, and what is to come. -/
def QuotedG (l0 : List UInt8) (s : ByteArray) (k : Nat) (l : List UInt8) : Prop := l ++ escAt s k = l0 ++ 34 :: escAt s 0
theorem quotedG_len {l0 : List UInt8} {s : ByteArray} {k : Nat} {l : List UInt8} (h : QuotedG l0 s k l) : l.length ≤ l0.length + 6 * s.size + 1 := by
  have e := congrArg List.length h
  have := quo_len s
  unfold quo at this
  simp only [List.length_append, List.length_cons, List.length_nil] at e this
  omega
theorem quotedG_lim {l0 : List UInt8} {s : ByteArray} {k : Nat} {l : List UInt8} (h : QuotedG l0 s k l) (hs : s.size ≤ 1048576) (hl0 : l0.length ≤ 1099511627776) (m : Nat) (hm : m ≤ 100) : l.length + m ≤ 140737488355328 := by
  have := quotedG_len h
  omega
theorem quotedG_step {l0 : List UInt8} {s : ByteArray} {k : Nat} {l : List UInt8} (h : QuotedG l0 s k l) (hk : k < s.size) (hb : (s.get! k).toNat < 128) (news : List UInt8) (he : escB (s.get! k) = news) : QuotedG l0 s (k + 1) (l ++ news) := by
  unfold QuotedG at *
  rw [escAt_ascii s k hk hb, he] at h
  simpa using h
theorem quotedG_bad {l0 : List UInt8} {s : ByteArray} {k : Nat} {l : List UInt8} (h : QuotedG l0 s k l) (hk : k < s.size) (hb : 128 ≤ (s.get! k).toNat) (hw : wid s k = 1) : QuotedG l0 s (k + 1) (l ++ [92, 117, 102, 102, 102, 100]) := by
  unfold QuotedG at *
  rw [escAt_bad s k hk hb hw] at h
  simpa using h
theorem quotedG_good {l0 : List UInt8} {s : ByteArray} {k : Nat} {l : List UInt8} (h : QuotedG l0 s k l) (hk : k < s.size) (hb : 128 ≤ (s.get! k).toNat) (hw : wid s k ≠ 1) : QuotedG l0 s (k + wid s k) (l ++ sub s k (k + wid s k)) := by
  unfold QuotedG at *
  rw [escAt_good s k hk hb hw] at h
  simpa using h
theorem quotedG_end {l0 : List UInt8} {s : ByteArray} {l : List UInt8} (h : QuotedG l0 s s.size l) : l ++ [34] = l0 ++ quo s := by
  unfold QuotedG at h
  rw [escAt_end, List.append_nil] at h
  rw [h]
  unfold quo
  simp
set_option maxRecDepth 100000 in
set_option maxHeartbeats 6400000 in
theorem quote_app (B : Nat) (v : Value) (l0 : List UInt8) (s : ByteArray) (hs : s.size ≤ 1048576) (w : World) (hv : Own B v l0 w) (hB : B ≤ w.heap.size) (hl0 : l0.length ≤ 1099511627776) : Calls Tryz.prog 24 #[v, .string s] w fun e w' => ∃ v', e = .returned v' ∧ Own B v' (l0 ++ quo s) w' ∧ Below B w w' := by
  have HV := Lib.hid hv
  clear hv
  go_enter Tryz.func24, Tryz.ntmps24
  go_wp2_with (at_builtin; refine app_bytes rfl _ _ rfl B _ _ l0 [34] _ _ 1 _ rfl rfl ?cb0 rfl rfl ?co0 ?cB0 ?cl0 ?_)
  case cb0 => rfl
  case co0 => exact HV.out
  case cB0 => exact hB
  case cl0 => simp only [List.length_singleton]; omega
  intro v0 w0 ho hb
  have HX := Lib.hid (And.intro ho hb)
  clear ho hb
  go_wp2
  go_loopw [0, 5] (fun out i wr => ∃ (k : Nat) (l : List UInt8), k ≤ s.size ∧ i = .int .i64 (k : Int) ∧ Hid (QuotedG l0 s k l) ∧ Hid (Own B out l wr ∧ Below B w wr)) (fun _ i _ => s.size - (intOf i).toNat)
  case atStart => exact ⟨0, l0 ++ [34], Nat.zero_le _, rfl, Lib.hid (by unfold QuotedG; simp), HX⟩
  case round =>
    obtain ⟨k, l, hk, rfl, HQ, HO⟩ := hrel
    clear HX
    by_cases hlt : k < s.size
    · have hbl := byte_lt s k
      by_cases ha : (s.get! k).toNat < 128
      · have hg := get!_at s k hlt
        by_cases e34 : s[k].toNat = 34
        · have HS := Lib.hid (quotedG_step HQ.out hlt ha [92, 34] (by rw [u8_eq hlt 34 e34]; rfl))
          clear ha hg hbl
          go_wp2_with (at_builtin; refine app_bytes rfl _ _ rfl B _ _ l [92, 34] _ _ 2 _ rfl rfl ?cb1 rfl rfl ?co1 ?cB1 ?cl1 ?_)
          case cb1 => rfl
          case co1 => exact HO.out.1
          case cB1 => exact Nat.le_trans hB HO.out.2.size
          case cl1 => exact quotedG_lim HQ.out hs hl0 2 (by omega)
          intro v1 w1 ho hb
          have HX := Lib.hid (And.intro ho (HO.out.2.trans hb))
          clear ho hb
          go_wp2
          go_roundw
          case rel => exact ⟨k + 1, _, by omega, by go_num, HS, HX⟩
          case measure => simp [intOf]; omega
        have n34 : ((s[k].toNat : Int) == 34) = false := by rw [beq_eq_false_iff_ne]; omega
        by_cases e92 : s[k].toNat = 92
        · have HS := Lib.hid (quotedG_step HQ.out hlt ha [92, 92] (by rw [u8_eq hlt 92 e92]; rfl))
          clear ha hg hbl
          go_wp2_with (at_builtin; refine app_bytes rfl _ _ rfl B _ _ l [92, 92] _ _ 2 _ rfl rfl ?cb2 rfl rfl ?co2 ?cB2 ?cl2 ?_)
          case cb2 => rfl
          case co2 => exact HO.out.1
          case cB2 => exact Nat.le_trans hB HO.out.2.size
          case cl2 => exact quotedG_lim HQ.out hs hl0 2 (by omega)
          intro v2 w2 ho hb
          have HX := Lib.hid (And.intro ho (HO.out.2.trans hb))
          clear ho hb
          go_wp2
          go_roundw
          case rel => exact ⟨k + 1, _, by omega, by go_num, HS, HX⟩
          case measure => simp [intOf]; omega
        have n92 : ((s[k].toNat : Int) == 92) = false := by rw [beq_eq_false_iff_ne]; omega
        by_cases e8 : s[k].toNat = 8
        · have HS := Lib.hid (quotedG_step HQ.out hlt ha [92, 98] (by rw [u8_eq hlt 8 e8]; rfl))
          clear ha hg hbl
          go_wp2_with (at_builtin; refine app_bytes rfl _ _ rfl B _ _ l [92, 98] _ _ 2 _ rfl rfl ?cb3 rfl rfl ?co3 ?cB3 ?cl3 ?_)
          case cb3 => rfl
          case co3 => exact HO.out.1
          case cB3 => exact Nat.le_trans hB HO.out.2.size
          case cl3 => exact quotedG_lim HQ.out hs hl0 2 (by omega)
          intro v3 w3 ho hb
          have HX := Lib.hid (And.intro ho (HO.out.2.trans hb))
          clear ho hb
          go_wp2
          go_roundw
          case rel => exact ⟨k + 1, _, by omega, by go_num, HS, HX⟩
          case measure => simp [intOf]; omega
        have n8 : ((s[k].toNat : Int) == 8) = false := by rw [beq_eq_false_iff_ne]; omega
        by_cases e12 : s[k].toNat = 12
        · have HS := Lib.hid (quotedG_step HQ.out hlt ha [92, 102] (by rw [u8_eq hlt 12 e12]; rfl))
          clear ha hg hbl
          go_wp2_with (at_builtin; refine app_bytes rfl _ _ rfl B _ _ l [92, 102] _ _ 2 _ rfl rfl ?cb4 rfl rfl ?co4 ?cB4 ?cl4 ?_)
          case cb4 => rfl
          case co4 => exact HO.out.1
          case cB4 => exact Nat.le_trans hB HO.out.2.size
          case cl4 => exact quotedG_lim HQ.out hs hl0 2 (by omega)
          intro v4 w4 ho hb
          have HX := Lib.hid (And.intro ho (HO.out.2.trans hb))
          clear ho hb
          go_wp2
          go_roundw
          case rel => exact ⟨k + 1, _, by omega, by go_num, HS, HX⟩
          case measure => simp [intOf]; omega
        have n12 : ((s[k].toNat : Int) == 12) = false := by rw [beq_eq_false_iff_ne]; omega
        by_cases e10 : s[k].toNat = 10
        · have HS := Lib.hid (quotedG_step HQ.out hlt ha [92, 110] (by rw [u8_eq hlt 10 e10]; rfl))
          clear ha hg hbl
          go_wp2_with (at_builtin; refine app_bytes rfl _ _ rfl B _ _ l [92, 110] _ _ 2 _ rfl rfl ?cb5 rfl rfl ?co5 ?cB5 ?cl5 ?_)
          case cb5 => rfl
          case co5 => exact HO.out.1
          case cB5 => exact Nat.le_trans hB HO.out.2.size
          case cl5 => exact quotedG_lim HQ.out hs hl0 2 (by omega)
          intro v5 w5 ho hb
          have HX := Lib.hid (And.intro ho (HO.out.2.trans hb))
          clear ho hb
          go_wp2
          go_roundw
          case rel => exact ⟨k + 1, _, by omega, by go_num, HS, HX⟩
          case measure => simp [intOf]; omega
        have n10 : ((s[k].toNat : Int) == 10) = false := by rw [beq_eq_false_iff_ne]; omega
        by_cases e13 : s[k].toNat = 13
        · have HS := Lib.hid (quotedG_step HQ.out hlt ha [92, 114] (by rw [u8_eq hlt 13 e13]; rfl))
          clear ha hg hbl
          go_wp2_with (at_builtin; refine app_bytes rfl _ _ rfl B _ _ l [92, 114] _ _ 2 _ rfl rfl ?cb6 rfl rfl ?co6 ?cB6 ?cl6 ?_)
          case cb6 => rfl
          case co6 => exact HO.out.1
          case cB6 => exact Nat.le_trans hB HO.out.2.size
          case cl6 => exact quotedG_lim HQ.out hs hl0 2 (by omega)
          intro v6 w6 ho hb
          have HX := Lib.hid (And.intro ho (HO.out.2.trans hb))
          clear ho hb
          go_wp2
          go_roundw
          case rel => exact ⟨k + 1, _, by omega, by go_num, HS, HX⟩
          case measure => simp [intOf]; omega
        have n13 : ((s[k].toNat : Int) == 13) = false := by rw [beq_eq_false_iff_ne]; omega
        by_cases e9 : s[k].toNat = 9
        · have HS := Lib.hid (quotedG_step HQ.out hlt ha [92, 116] (by rw [u8_eq hlt 9 e9]; rfl))
          clear ha hg hbl
          go_wp2_with (at_builtin; refine app_bytes rfl _ _ rfl B _ _ l [92, 116] _ _ 2 _ rfl rfl ?cb7 rfl rfl ?co7 ?cB7 ?cl7 ?_)
          case cb7 => rfl
          case co7 => exact HO.out.1
          case cB7 => exact Nat.le_trans hB HO.out.2.size
          case cl7 => exact quotedG_lim HQ.out hs hl0 2 (by omega)
          intro v7 w7 ho hb
          have HX := Lib.hid (And.intro ho (HO.out.2.trans hb))
          clear ho hb
          go_wp2
          go_roundw
          case rel => exact ⟨k + 1, _, by omega, by go_num, HS, HX⟩
          case measure => simp [intOf]; omega
        have n9 : ((s[k].toNat : Int) == 9) = false := by rw [beq_eq_false_iff_ne]; omega
        by_cases e127 : s[k].toNat = 127
        · have HS := Lib.hid (quotedG_step HQ.out hlt ha [92, 117, 48, 48, hx 7, hx 15] (by rw [u8_eq hlt 127 e127]; rfl))
          clear ha hg hbl n34 n92 n8 n12 n10 n13 n9 e34 e92 e8 e12 e10 e13 e9
          go_wp2_with fail
          go_at_call 35
          refine (hexZ 7 7 rfl (by omega) _).mono ?_
          rintro e w' ⟨rfl, rfl⟩
          go_wp2_with fail
          go_at_call 35
          refine (hexZ 15 15 rfl (by omega) _).mono ?_
          rintro e w' ⟨rfl, rfl⟩
          go_wp2_with (at_builtin; refine app_bytes rfl _ _ rfl B _ _ l [92, 117, 48, 48, hx 7, hx 15] _ _ 6 _ rfl rfl ?cb8 rfl rfl ?co8 ?cB8 ?cl8 ?_)
          case cb8 => rfl
          case co8 => exact HO.out.1
          case cB8 => exact Nat.le_trans hB HO.out.2.size
          case cl8 => exact quotedG_lim HQ.out hs hl0 6 (by omega)
          intro v8 w8 ho hb
          have HX := Lib.hid (And.intro ho (HO.out.2.trans hb))
          clear ho hb
          go_wp2
          go_roundw
          case rel => exact ⟨k + 1, _, by omega, by go_num, HS, HX⟩
          case measure => simp [intOf]; omega
        have n127 : ((s[k].toNat : Int) == 127) = false := by rw [beq_eq_false_iff_ne]; omega
        by_cases e32 : s[k].toNat < 32
        · have HS := Lib.hid (quotedG_step HQ.out hlt ha [92, 117, 48, 48, hx (s[k].toNat / 16), hx (s[k].toNat % 16)] (by rw [hg]; exact escB_ctl s[k] e32 e8 e12 e10 e13 e9))
          have i32 : (s[k].toNat : Int) < 32 := by omega
          clear ha hg hbl e34 e92 e8 e12 e10 e13 e9 e127 e32
          go_wp2_with fail
          go_at_call 35
          refine (hexZ _ (s[k].toNat / 16) (by omega) (by omega) _).mono ?_
          rintro e w' ⟨rfl, rfl⟩
          go_wp2_with fail
          go_at_call 35
          refine (hexZ _ (s[k].toNat % 16) (by omega) (by omega) _).mono ?_
          rintro e w' ⟨rfl, rfl⟩
          go_wp2_with (at_builtin; refine app_bytes rfl _ _ rfl B _ _ l [92, 117, 48, 48, hx (s[k].toNat / 16), hx (s[k].toNat % 16)] _ _ 6 _ rfl rfl ?cb9 rfl rfl ?co9 ?cB9 ?cl9 ?_)
          case cb9 => rfl
          case co9 => exact HO.out.1
          case cB9 => exact Nat.le_trans hB HO.out.2.size
          case cl9 => exact quotedG_lim HQ.out hs hl0 6 (by omega)
          intro v9 w9 ho hb
          have HX := Lib.hid (And.intro ho (HO.out.2.trans hb))
          clear ho hb
          go_wp2
          go_roundw
          case rel => exact ⟨k + 1, _, by omega, by go_num, HS, HX⟩
          case measure => simp [intOf]; omega
        · have HS := Lib.hid (quotedG_step HQ.out hlt ha [s[k]] (by rw [hg]; exact escB_plain _ (by omega) (by rw [hg] at ha; omega) e34 e92))
          have i32 : (32 : Int) ≤ (s[k].toNat : Int) := by omega
          have i128 : (s[k].toNat : Int) < 128 := by rw [hg] at ha; omega
          clear ha hg hbl e34 e92 e8 e12 e10 e13 e9 e127 e32
          go_wp2_with (at_builtin; refine app_bytes rfl _ _ rfl B _ _ l [s[k]] _ _ 1 _ rfl rfl ?cb10 rfl rfl ?co10 ?cB10 ?cl10 ?_)
          case cb10 => rfl
          case co10 => exact HO.out.1
          case cB10 => exact Nat.le_trans hB HO.out.2.size
          case cl10 => exact quotedG_lim HQ.out hs hl0 1 (by omega)
          intro v10 w10 ho hb
          have HX := Lib.hid (And.intro ho (HO.out.2.trans hb))
          clear ho hb
          go_wp2
          go_roundw
          case rel => exact ⟨k + 1, _, by omega, by go_num, HS, HX⟩
          case measure => simp [intOf]; omega
      · have hg := get!_at s k hlt
        have hge : 128 ≤ (s.get! k).toNat := by omega
        have i128 : (128 : Int) ≤ (s[k].toNat : Int) := by rw [← hg]; omega
        have hsl := seqLen_any s hs k hlt hge
        have hc := wid_cases s k hlt hge
        by_cases hw : wid s k = 1
        · have HS := Lib.hid (quotedG_bad HQ.out hlt hge hw)
          have e : seqN s k = 0 := by unfold seqN; rw [if_pos hw]
          rw [e] at hsl
          have HL := Lib.hid hsl
          clear hsl hw hc e hg hge ha hbl
          go_wp2_with (first | (go_at_call 36; refine (HL.out _).mono ?_; rintro e w' ⟨rfl, rfl⟩) | (at_builtin; refine app_bytes rfl _ _ rfl B _ _ l [92, 117, 102, 102, 102, 100] _ _ 6 _ rfl rfl ?cb11 rfl rfl ?co11 ?cB11 ?cl11 ?_))
          case cb11 => rfl
          case co11 => exact HO.out.1
          case cB11 => exact Nat.le_trans hB HO.out.2.size
          case cl11 => exact quotedG_lim HQ.out hs hl0 6 (by omega)
          intro v11 w11 ho hb
          have HX := Lib.hid (And.intro ho (HO.out.2.trans hb))
          clear ho hb
          go_wp2
          go_roundw
          case rel => exact ⟨k + 1, _, by omega, by go_num, HS, HX⟩
          case measure => simp [intOf]; omega
        · have HS := Lib.hid (quotedG_good HQ.out hlt hge hw)
          have e : seqN s k = wid s k := by unfold seqN; rw [if_neg hw]
          rw [e] at hsl
          have HL := Lib.hid hsl
          obtain ⟨n, hn⟩ : ∃ n, n = wid s k := ⟨_, rfl⟩
          rw [← hn] at HL HS hc hw
          have hn2 : 2 ≤ n ∧ n ≤ 4 ∧ k + n ≤ s.size := by omega
          have HLen := Lib.hid (quotedG_len HQ.out)
          obtain ⟨m1, m2, m3⟩ := hn2
          have nz : ((n : Int) == 0) = false := by rw [beq_eq_false_iff_ne]; omega
          clear hsl hw hc e hg hge ha hbl hn
          go_wp2_with (go_at_call 36; refine (HL.out _).mono ?_; rintro e w' ⟨rfl, rfl⟩)
          go_loopw [0, 8] (fun out j wr => ∃ q : Nat, q ≤ n ∧ j = .int .i64 (q : Int) ∧ Hid (Own B out (l ++ sub s k (k + q)) wr ∧ Below B w wr)) (fun _ j _ => n - (intOf j).toNat)
          case atStart => exact ⟨0, Nat.zero_le _, rfl, Lib.hid (by rw [Nat.add_zero, sub_self, List.append_nil]; exact HO.out)⟩
          case round =>
            obtain ⟨q, hq, rfl, HP⟩ := hrel
            by_cases hqn : q < n
            · have hkq : k + q < s.size := by omega
              have HT := Lib.hid (show sub s k (k + q) ++ [s[k + q]] = sub s k (k + (q + 1)) from by rw [← get!_at s (k + q) hkq, ← sub_one s (k + q) hkq]; exact sub_app s k (k + q) (k + q + 1) (by omega) (by omega))
              have HLq := Lib.hid (show (l ++ sub s k (k + q)).length + 1 ≤ 140737488355328 from by have := HLen.out; rw [List.length_append, sub_len s k _ (by omega) (by omega)]; omega)
              go_wp2_with (at_builtin; refine app_bytes rfl _ _ rfl B _ _ (l ++ sub s k (k + q)) [s[k + q]] _ _ 1 _ rfl rfl ?cb12 rfl rfl ?co12 ?cB12 ?cl12 ?_)
              case cb12 => rfl
              case co12 => exact HP.out.1
              case cB12 => exact Nat.le_trans hB HP.out.2.size
              case cl12 => exact HLq.out
              intro v12 w12 ho hb
              have HX := Lib.hid (And.intro ho (HP.out.2.trans hb))
              clear ho hb
              go_wp2
              go_roundw
              case rel => exact ⟨q + 1, by omega, by go_num, Lib.hid (by rw [← HT.out]; first | exact HX.out | (rw [← List.append_assoc]; exact HX.out))⟩
              case measure => simp [intOf]; omega
            · obtain rfl : q = n := by omega
              go_wp2
              go_roundw
              case rel => exact ⟨k + q, _, by omega, by go_num, HS, HP⟩
              case measure => simp [intOf]; omega
    · obtain rfl : k = s.size := by omega
      have HE := Lib.hid (quotedG_end HQ.out)
      go_wp2_with (at_builtin; refine app_bytes rfl _ _ rfl B _ _ l [34] _ _ 1 _ rfl rfl ?cb13 rfl rfl ?co13 ?cB13 ?cl13 ?_)
      case cb13 => rfl
      case co13 => exact HO.out.1
      case cB13 => exact Nat.le_trans hB HO.out.2.size
      case cl13 => exact quotedG_lim HQ.out hs hl0 1 (by omega)
      intro v13 w13 ho hb
      have HX := Lib.hid (And.intro ho (HO.out.2.trans hb))
      clear ho hb
      go_wp2
      go_ret
      exact ⟨_, rfl, by rw [← HE.out]; exact HX.out.1, HX.out.2⟩
end Go.Proofs.YtdkccihoecpcaaaGreatFmt
