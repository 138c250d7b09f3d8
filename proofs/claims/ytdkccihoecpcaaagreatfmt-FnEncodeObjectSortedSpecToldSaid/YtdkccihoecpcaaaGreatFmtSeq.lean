/- The law's own reading of well-formed sequences, walked. Conditions: at most 1048576 bytes. -/
import Derived.Test.YtdkccihoecpcaaaGreatFmtTouch
import Derived.Test.YtdkccihoecpcaaaGreatFmtEsc
namespace Go.Proofs.YtdkccihoecpcaaaGreatFmt
open Go.RowKit Go
set_option maxRecDepth 100000 in
theorem cont_any (s : ByteArray) (_hs : s.size ≤ 1048576) (z : Int) (i lo hi : Nat) (hz : z = (i : Int)) (_h1 : i ≤ 2097152) (_h2 : lo ≤ 255) (_h3 : hi ≤ 255) (w : World) :
    Calls Tryz.prog 49 #[.string s, .int .i64 z, .int .u8 (lo : Int), .int .u8 (hi : Int)] w (Ret (.bool (contB s i lo hi)) w) := by
  subst hz
  by_cases hlt : i < s.size
  · have hg := get!_at s i hlt
    by_cases a1 : lo ≤ s[i].toNat
    · by_cases a2 : s[i].toNat ≤ hi
      · have e : contB s i lo hi = true := by unfold contB; rw [hg]; exact decide_eq_true ⟨hlt, a1, a2⟩
        rw [e]
        clear e hg
        go_enter Tryz.func49, Tryz.ntmps49
        go_wp2
        go_ret
        exact ⟨ret_bool (by first | rfl | simp; done | simp; omega), rfl⟩
      · have e : contB s i lo hi = false := by unfold contB; rw [hg]; exact decide_eq_false (fun h => a2 h.2.2)
        rw [e]
        clear e hg
        go_enter Tryz.func49, Tryz.ntmps49
        go_wp2
        go_ret
        exact ⟨ret_bool (by first | rfl | simp; done | simp; omega), rfl⟩
    · have e : contB s i lo hi = false := by unfold contB; rw [hg]; exact decide_eq_false (fun h => a1 h.2.1)
      rw [e]
      clear e hg
      go_enter Tryz.func49, Tryz.ntmps49
      go_wp2
      go_ret
      exact ⟨ret_bool (by first | rfl | simp; done | simp; omega), rfl⟩
  · have e : contB s i lo hi = false := by unfold contB; exact decide_eq_false (fun h => hlt h.1)
    rw [e]
    clear e
    go_enter Tryz.func49, Tryz.ntmps49
    go_wp2
    go_ret
    exact ⟨ret_bool (by first | rfl | simp; done | simp; omega), rfl⟩
set_option maxRecDepth 100000 in
theorem hex_any (d : Nat) (h : d < 16) (w : World) : Calls Tryz.prog 35 #[.int .u8 (d : Int)] w (Ret (.int .u8 ((hx d).toNat : Int)) w) := by
  have hv := hx_val d h
  by_cases h1 : d < 10
  · rw [if_pos h1] at hv
    rw [hv]
    clear hv
    go_enter Tryz.func35, Tryz.ntmps35
    go_wp2
    go_ret
    exact ⟨by first | rfl | (congr 2; omega) | simp, rfl⟩
  · rw [if_neg h1] at hv
    rw [hv]
    clear hv
    go_enter Tryz.func35, Tryz.ntmps35
    go_wp2
    go_ret
    exact ⟨by first | rfl | (congr 2; omega) | (rw [show (97 : Int) + (d : Int) - 10 = ((87 + d : Nat) : Int) from by omega]; rfl) | (simp; omega), rfl⟩
theorem hexZ (z : Int) (d : Nat) (hz : z = (d : Int)) (h : d < 16) (w : World) : Calls Tryz.prog 35 #[.int .u8 z] w (Ret (.int .u8 ((hx d).toNat : Int)) w) := by
  subst hz
  exact hex_any d h w
set_option maxRecDepth 100000 in
set_option maxHeartbeats 3200000 in
theorem seqLen_any (s : ByteArray) (hs : s.size ≤ 1048576) (i : Nat) (hlt : i < s.size) (hb : 128 ≤ (s.get! i).toNat) (w : World) :
    Calls Tryz.prog 36 #[.string s, .int .i64 (i : Int)] w (Ret (.int .i64 (seqN s i : Int)) w) := by
  have hg := get!_at s i hlt
  have hbl := byte_lt s i
  by_cases a2 : 194 ≤ (s.get! i).toNat ∧ (s.get! i).toNat ≤ 223
  · obtain ⟨x1, x2⟩ := a2
    have y1 : (194 : Int) ≤ (s[i].toNat : Int) := by rw [← hg]; omega
    have y2 : (s[i].toNat : Int) ≤ 223 := by rw [← hg]; omega
    cases hc1 : contB s (i + 1) 128 191 with
    | true =>
      clear hg
      have HQ := Lib.hid (show seqN s i = 2 from seq2_yes hlt ⟨x1, x2⟩ hc1)
      have K1 := Lib.hid (show ∀ w, Calls Tryz.prog 49 #[.string s, .int .i64 ((i : Int) + 1), .int .u8 128, .int .u8 191] w (Ret (.bool true) w) from fun w => by have h := (cont_any s hs ((i : Int) + 1) (i + 1) 128 191 (by push_cast; rfl) (by omega) (by omega) (by omega)) w; rw [hc1] at h; exact h)
      clear hc1
      go_enter Tryz.func36, Tryz.ntmps36
      go_wp2_with fail
      go_at_call 49
      refine (K1.out _).mono ?_
      rintro e w' ⟨rfl, rfl⟩
      go_wp2
      go_ret
      exact ⟨by rw [HQ.out]; rfl, rfl⟩
    | false =>
      clear hg
      have HQ := Lib.hid (show seqN s i = 0 from seq2_no hlt ⟨x1, x2⟩ hc1)
      have K1 := Lib.hid (show ∀ w, Calls Tryz.prog 49 #[.string s, .int .i64 ((i : Int) + 1), .int .u8 128, .int .u8 191] w (Ret (.bool false) w) from fun w => by have h := (cont_any s hs ((i : Int) + 1) (i + 1) 128 191 (by push_cast; rfl) (by omega) (by omega) (by omega)) w; rw [hc1] at h; exact h)
      clear hc1
      go_enter Tryz.func36, Tryz.ntmps36
      go_wp2_with fail
      go_at_call 49
      refine (K1.out _).mono ?_
      rintro e w' ⟨rfl, rfl⟩
      go_wp2
      go_ret
      exact ⟨by rw [HQ.out]; rfl, rfl⟩
  · by_cases a3 : 224 ≤ (s.get! i).toNat ∧ (s.get! i).toNat ≤ 239
    · obtain ⟨x1, x2⟩ := a3
      by_cases e1 : (s.get! i).toNat = 224
      · have L3 : lo3 (s.get! i).toNat = 160 := by unfold lo3; rw [if_pos e1]
        have H3 : hi3 (s.get! i).toNat = 191 := by unfold hi3; rw [if_neg (by omega)]
        have q : s[i].toNat = 224 := by rw [← hg]; exact e1
        clear hg
        cases hc1 : contB s (i + 1) 160 191 with
        | false =>
          have HQ := Lib.hid (show seqN s i = 0 from seq3_no hlt ⟨by omega, by omega⟩ (by rw [L3, H3, hc1]; rfl))
          have K1 := Lib.hid (show ∀ w, Calls Tryz.prog 49 #[.string s, .int .i64 ((i : Int) + 1), .int .u8 160, .int .u8 191] w (Ret (.bool false) w) from fun w => by have h := (cont_any s hs ((i : Int) + 1) (i + 1) 160 191 (by push_cast; rfl) (by omega) (by omega) (by omega)) w; rw [hc1] at h; exact h)
          clear hc1
          go_enter Tryz.func36, Tryz.ntmps36
          go_wp2_with fail
          go_at_call 49
          refine (K1.out _).mono ?_
          rintro e w' ⟨rfl, rfl⟩
          go_wp2
          go_ret
          exact ⟨by rw [HQ.out]; rfl, rfl⟩
        | true =>
          cases hc2 : contB s (i + 2) 128 191 with
          | false =>
            have HQ := Lib.hid (show seqN s i = 0 from seq3_no hlt ⟨by omega, by omega⟩ (by rw [L3, H3, hc1, hc2]; rfl))
            have K1 := Lib.hid (show ∀ w, Calls Tryz.prog 49 #[.string s, .int .i64 ((i : Int) + 1), .int .u8 160, .int .u8 191] w (Ret (.bool true) w) from fun w => by have h := (cont_any s hs ((i : Int) + 1) (i + 1) 160 191 (by push_cast; rfl) (by omega) (by omega) (by omega)) w; rw [hc1] at h; exact h)
            have K2 := Lib.hid (show ∀ w, Calls Tryz.prog 49 #[.string s, .int .i64 ((i : Int) + 2), .int .u8 128, .int .u8 191] w (Ret (.bool false) w) from fun w => by have h := (cont_any s hs ((i : Int) + 2) (i + 2) 128 191 (by push_cast; rfl) (by omega) (by omega) (by omega)) w; rw [hc2] at h; exact h)
            clear hc1 hc2
            go_enter Tryz.func36, Tryz.ntmps36
            go_wp2_with fail
            go_at_call 49
            refine (K1.out _).mono ?_
            rintro e w' ⟨rfl, rfl⟩
            go_wp2_with fail
            go_at_call 49
            refine (K2.out _).mono ?_
            rintro e w' ⟨rfl, rfl⟩
            go_wp2
            go_ret
            exact ⟨by rw [HQ.out]; rfl, rfl⟩
          | true =>
            have HQ := Lib.hid (show seqN s i = 3 from seq3_yes hlt ⟨by omega, by omega⟩ (by rw [L3, H3]; exact hc1) hc2)
            have K1 := Lib.hid (show ∀ w, Calls Tryz.prog 49 #[.string s, .int .i64 ((i : Int) + 1), .int .u8 160, .int .u8 191] w (Ret (.bool true) w) from fun w => by have h := (cont_any s hs ((i : Int) + 1) (i + 1) 160 191 (by push_cast; rfl) (by omega) (by omega) (by omega)) w; rw [hc1] at h; exact h)
            have K2 := Lib.hid (show ∀ w, Calls Tryz.prog 49 #[.string s, .int .i64 ((i : Int) + 2), .int .u8 128, .int .u8 191] w (Ret (.bool true) w) from fun w => by have h := (cont_any s hs ((i : Int) + 2) (i + 2) 128 191 (by push_cast; rfl) (by omega) (by omega) (by omega)) w; rw [hc2] at h; exact h)
            clear hc1 hc2
            go_enter Tryz.func36, Tryz.ntmps36
            go_wp2_with fail
            go_at_call 49
            refine (K1.out _).mono ?_
            rintro e w' ⟨rfl, rfl⟩
            go_wp2_with fail
            go_at_call 49
            refine (K2.out _).mono ?_
            rintro e w' ⟨rfl, rfl⟩
            go_wp2
            go_ret
            exact ⟨by rw [HQ.out]; rfl, rfl⟩
      · by_cases e2 : (s.get! i).toNat = 237
        · have L3 : lo3 (s.get! i).toNat = 128 := by unfold lo3; rw [if_neg (by omega)]
          have H3 : hi3 (s.get! i).toNat = 159 := by unfold hi3; rw [if_pos e2]
          have q : s[i].toNat = 237 := by rw [← hg]; exact e2
          clear hg
          cases hc1 : contB s (i + 1) 128 159 with
          | false =>
            have HQ := Lib.hid (show seqN s i = 0 from seq3_no hlt ⟨by omega, by omega⟩ (by rw [L3, H3, hc1]; rfl))
            have K1 := Lib.hid (show ∀ w, Calls Tryz.prog 49 #[.string s, .int .i64 ((i : Int) + 1), .int .u8 128, .int .u8 159] w (Ret (.bool false) w) from fun w => by have h := (cont_any s hs ((i : Int) + 1) (i + 1) 128 159 (by push_cast; rfl) (by omega) (by omega) (by omega)) w; rw [hc1] at h; exact h)
            clear hc1
            go_enter Tryz.func36, Tryz.ntmps36
            go_wp2_with fail
            go_at_call 49
            refine (K1.out _).mono ?_
            rintro e w' ⟨rfl, rfl⟩
            go_wp2
            go_ret
            exact ⟨by rw [HQ.out]; rfl, rfl⟩
          | true =>
            cases hc2 : contB s (i + 2) 128 191 with
            | false =>
              have HQ := Lib.hid (show seqN s i = 0 from seq3_no hlt ⟨by omega, by omega⟩ (by rw [L3, H3, hc1, hc2]; rfl))
              have K1 := Lib.hid (show ∀ w, Calls Tryz.prog 49 #[.string s, .int .i64 ((i : Int) + 1), .int .u8 128, .int .u8 159] w (Ret (.bool true) w) from fun w => by have h := (cont_any s hs ((i : Int) + 1) (i + 1) 128 159 (by push_cast; rfl) (by omega) (by omega) (by omega)) w; rw [hc1] at h; exact h)
              have K2 := Lib.hid (show ∀ w, Calls Tryz.prog 49 #[.string s, .int .i64 ((i : Int) + 2), .int .u8 128, .int .u8 191] w (Ret (.bool false) w) from fun w => by have h := (cont_any s hs ((i : Int) + 2) (i + 2) 128 191 (by push_cast; rfl) (by omega) (by omega) (by omega)) w; rw [hc2] at h; exact h)
              clear hc1 hc2
              go_enter Tryz.func36, Tryz.ntmps36
              go_wp2_with fail
              go_at_call 49
              refine (K1.out _).mono ?_
              rintro e w' ⟨rfl, rfl⟩
              go_wp2_with fail
              go_at_call 49
              refine (K2.out _).mono ?_
              rintro e w' ⟨rfl, rfl⟩
              go_wp2
              go_ret
              exact ⟨by rw [HQ.out]; rfl, rfl⟩
            | true =>
              have HQ := Lib.hid (show seqN s i = 3 from seq3_yes hlt ⟨by omega, by omega⟩ (by rw [L3, H3]; exact hc1) hc2)
              have K1 := Lib.hid (show ∀ w, Calls Tryz.prog 49 #[.string s, .int .i64 ((i : Int) + 1), .int .u8 128, .int .u8 159] w (Ret (.bool true) w) from fun w => by have h := (cont_any s hs ((i : Int) + 1) (i + 1) 128 159 (by push_cast; rfl) (by omega) (by omega) (by omega)) w; rw [hc1] at h; exact h)
              have K2 := Lib.hid (show ∀ w, Calls Tryz.prog 49 #[.string s, .int .i64 ((i : Int) + 2), .int .u8 128, .int .u8 191] w (Ret (.bool true) w) from fun w => by have h := (cont_any s hs ((i : Int) + 2) (i + 2) 128 191 (by push_cast; rfl) (by omega) (by omega) (by omega)) w; rw [hc2] at h; exact h)
              clear hc1 hc2
              go_enter Tryz.func36, Tryz.ntmps36
              go_wp2_with fail
              go_at_call 49
              refine (K1.out _).mono ?_
              rintro e w' ⟨rfl, rfl⟩
              go_wp2_with fail
              go_at_call 49
              refine (K2.out _).mono ?_
              rintro e w' ⟨rfl, rfl⟩
              go_wp2
              go_ret
              exact ⟨by rw [HQ.out]; rfl, rfl⟩
        · have L3 : lo3 (s.get! i).toNat = 128 := by unfold lo3; rw [if_neg (by omega)]
          have H3 : hi3 (s.get! i).toNat = 191 := by unfold hi3; rw [if_neg (by omega)]
          have q1 : (224 : Int) ≤ (s[i].toNat : Int) := by rw [← hg]; omega
          have q2 : (s[i].toNat : Int) ≤ 239 := by rw [← hg]; omega
          have q3 : ((s[i].toNat : Int) == 224) = false := by rw [← hg, beq_eq_false_iff_ne]; omega
          have q4 : ((s[i].toNat : Int) == 237) = false := by rw [← hg, beq_eq_false_iff_ne]; omega
          clear hg
          cases hc1 : contB s (i + 1) 128 191 with
          | false =>
            have HQ := Lib.hid (show seqN s i = 0 from seq3_no hlt ⟨by omega, by omega⟩ (by rw [L3, H3, hc1]; rfl))
            have K1 := Lib.hid (show ∀ w, Calls Tryz.prog 49 #[.string s, .int .i64 ((i : Int) + 1), .int .u8 128, .int .u8 191] w (Ret (.bool false) w) from fun w => by have h := (cont_any s hs ((i : Int) + 1) (i + 1) 128 191 (by push_cast; rfl) (by omega) (by omega) (by omega)) w; rw [hc1] at h; exact h)
            clear hc1
            go_enter Tryz.func36, Tryz.ntmps36
            go_wp2_with fail
            go_at_call 49
            refine (K1.out _).mono ?_
            rintro e w' ⟨rfl, rfl⟩
            go_wp2
            go_ret
            exact ⟨by rw [HQ.out]; rfl, rfl⟩
          | true =>
            cases hc2 : contB s (i + 2) 128 191 with
            | false =>
              have HQ := Lib.hid (show seqN s i = 0 from seq3_no hlt ⟨by omega, by omega⟩ (by rw [L3, H3, hc1, hc2]; rfl))
              have K1 := Lib.hid (show ∀ w, Calls Tryz.prog 49 #[.string s, .int .i64 ((i : Int) + 1), .int .u8 128, .int .u8 191] w (Ret (.bool true) w) from fun w => by have h := (cont_any s hs ((i : Int) + 1) (i + 1) 128 191 (by push_cast; rfl) (by omega) (by omega) (by omega)) w; rw [hc1] at h; exact h)
              have K2 := Lib.hid (show ∀ w, Calls Tryz.prog 49 #[.string s, .int .i64 ((i : Int) + 2), .int .u8 128, .int .u8 191] w (Ret (.bool false) w) from fun w => by have h := (cont_any s hs ((i : Int) + 2) (i + 2) 128 191 (by push_cast; rfl) (by omega) (by omega) (by omega)) w; rw [hc2] at h; exact h)
              clear hc1 hc2
              go_enter Tryz.func36, Tryz.ntmps36
              go_wp2_with fail
              go_at_call 49
              refine (K1.out _).mono ?_
              rintro e w' ⟨rfl, rfl⟩
              go_wp2_with fail
              go_at_call 49
              refine (K2.out _).mono ?_
              rintro e w' ⟨rfl, rfl⟩
              go_wp2
              go_ret
              exact ⟨by rw [HQ.out]; rfl, rfl⟩
            | true =>
              have HQ := Lib.hid (show seqN s i = 3 from seq3_yes hlt ⟨by omega, by omega⟩ (by rw [L3, H3]; exact hc1) hc2)
              have K1 := Lib.hid (show ∀ w, Calls Tryz.prog 49 #[.string s, .int .i64 ((i : Int) + 1), .int .u8 128, .int .u8 191] w (Ret (.bool true) w) from fun w => by have h := (cont_any s hs ((i : Int) + 1) (i + 1) 128 191 (by push_cast; rfl) (by omega) (by omega) (by omega)) w; rw [hc1] at h; exact h)
              have K2 := Lib.hid (show ∀ w, Calls Tryz.prog 49 #[.string s, .int .i64 ((i : Int) + 2), .int .u8 128, .int .u8 191] w (Ret (.bool true) w) from fun w => by have h := (cont_any s hs ((i : Int) + 2) (i + 2) 128 191 (by push_cast; rfl) (by omega) (by omega) (by omega)) w; rw [hc2] at h; exact h)
              clear hc1 hc2
              go_enter Tryz.func36, Tryz.ntmps36
              go_wp2_with fail
              go_at_call 49
              refine (K1.out _).mono ?_
              rintro e w' ⟨rfl, rfl⟩
              go_wp2_with fail
              go_at_call 49
              refine (K2.out _).mono ?_
              rintro e w' ⟨rfl, rfl⟩
              go_wp2
              go_ret
              exact ⟨by rw [HQ.out]; rfl, rfl⟩
    · by_cases a4 : 240 ≤ (s.get! i).toNat ∧ (s.get! i).toNat ≤ 244
      · obtain ⟨x1, x2⟩ := a4
        by_cases e1 : (s.get! i).toNat = 240
        · have L3 : lo4 (s.get! i).toNat = 144 := by unfold lo4; rw [if_pos e1]
          have H3 : hi4 (s.get! i).toNat = 191 := by unfold hi4; rw [if_neg (by omega)]
          have q : s[i].toNat = 240 := by rw [← hg]; exact e1
          clear hg
          cases hc1 : contB s (i + 1) 144 191 with
          | false =>
            have HQ := Lib.hid (show seqN s i = 0 from seq4_no hlt ⟨by omega, by omega⟩ (by rw [L3, H3, hc1]; rfl))
            have K1 := Lib.hid (show ∀ w, Calls Tryz.prog 49 #[.string s, .int .i64 ((i : Int) + 1), .int .u8 144, .int .u8 191] w (Ret (.bool false) w) from fun w => by have h := (cont_any s hs ((i : Int) + 1) (i + 1) 144 191 (by push_cast; rfl) (by omega) (by omega) (by omega)) w; rw [hc1] at h; exact h)
            clear hc1
            go_enter Tryz.func36, Tryz.ntmps36
            go_wp2_with fail
            go_at_call 49
            refine (K1.out _).mono ?_
            rintro e w' ⟨rfl, rfl⟩
            go_wp2
            go_ret
            exact ⟨by rw [HQ.out]; rfl, rfl⟩
          | true =>
            cases hc2 : contB s (i + 2) 128 191 with
            | false =>
              have HQ := Lib.hid (show seqN s i = 0 from seq4_no hlt ⟨by omega, by omega⟩ (by rw [L3, H3, hc1, hc2]; rfl))
              have K1 := Lib.hid (show ∀ w, Calls Tryz.prog 49 #[.string s, .int .i64 ((i : Int) + 1), .int .u8 144, .int .u8 191] w (Ret (.bool true) w) from fun w => by have h := (cont_any s hs ((i : Int) + 1) (i + 1) 144 191 (by push_cast; rfl) (by omega) (by omega) (by omega)) w; rw [hc1] at h; exact h)
              have K2 := Lib.hid (show ∀ w, Calls Tryz.prog 49 #[.string s, .int .i64 ((i : Int) + 2), .int .u8 128, .int .u8 191] w (Ret (.bool false) w) from fun w => by have h := (cont_any s hs ((i : Int) + 2) (i + 2) 128 191 (by push_cast; rfl) (by omega) (by omega) (by omega)) w; rw [hc2] at h; exact h)
              clear hc1 hc2
              go_enter Tryz.func36, Tryz.ntmps36
              go_wp2_with fail
              go_at_call 49
              refine (K1.out _).mono ?_
              rintro e w' ⟨rfl, rfl⟩
              go_wp2_with fail
              go_at_call 49
              refine (K2.out _).mono ?_
              rintro e w' ⟨rfl, rfl⟩
              go_wp2
              go_ret
              exact ⟨by rw [HQ.out]; rfl, rfl⟩
            | true =>
              cases hc3 : contB s (i + 3) 128 191 with
              | false =>
                have HQ := Lib.hid (show seqN s i = 0 from seq4_no hlt ⟨by omega, by omega⟩ (by rw [L3, H3, hc1, hc2, hc3]; rfl))
                have K1 := Lib.hid (show ∀ w, Calls Tryz.prog 49 #[.string s, .int .i64 ((i : Int) + 1), .int .u8 144, .int .u8 191] w (Ret (.bool true) w) from fun w => by have h := (cont_any s hs ((i : Int) + 1) (i + 1) 144 191 (by push_cast; rfl) (by omega) (by omega) (by omega)) w; rw [hc1] at h; exact h)
                have K2 := Lib.hid (show ∀ w, Calls Tryz.prog 49 #[.string s, .int .i64 ((i : Int) + 2), .int .u8 128, .int .u8 191] w (Ret (.bool true) w) from fun w => by have h := (cont_any s hs ((i : Int) + 2) (i + 2) 128 191 (by push_cast; rfl) (by omega) (by omega) (by omega)) w; rw [hc2] at h; exact h)
                have K3 := Lib.hid (show ∀ w, Calls Tryz.prog 49 #[.string s, .int .i64 ((i : Int) + 3), .int .u8 128, .int .u8 191] w (Ret (.bool false) w) from fun w => by have h := (cont_any s hs ((i : Int) + 3) (i + 3) 128 191 (by push_cast; rfl) (by omega) (by omega) (by omega)) w; rw [hc3] at h; exact h)
                clear hc1 hc2 hc3
                go_enter Tryz.func36, Tryz.ntmps36
                go_wp2_with fail
                go_at_call 49
                refine (K1.out _).mono ?_
                rintro e w' ⟨rfl, rfl⟩
                go_wp2_with fail
                go_at_call 49
                refine (K2.out _).mono ?_
                rintro e w' ⟨rfl, rfl⟩
                go_wp2_with fail
                go_at_call 49
                refine (K3.out _).mono ?_
                rintro e w' ⟨rfl, rfl⟩
                go_wp2
                go_ret
                exact ⟨by rw [HQ.out]; rfl, rfl⟩
              | true =>
                have HQ := Lib.hid (show seqN s i = 4 from seq4_yes hlt ⟨by omega, by omega⟩ (by rw [L3, H3]; exact hc1) hc2 hc3)
                have K1 := Lib.hid (show ∀ w, Calls Tryz.prog 49 #[.string s, .int .i64 ((i : Int) + 1), .int .u8 144, .int .u8 191] w (Ret (.bool true) w) from fun w => by have h := (cont_any s hs ((i : Int) + 1) (i + 1) 144 191 (by push_cast; rfl) (by omega) (by omega) (by omega)) w; rw [hc1] at h; exact h)
                have K2 := Lib.hid (show ∀ w, Calls Tryz.prog 49 #[.string s, .int .i64 ((i : Int) + 2), .int .u8 128, .int .u8 191] w (Ret (.bool true) w) from fun w => by have h := (cont_any s hs ((i : Int) + 2) (i + 2) 128 191 (by push_cast; rfl) (by omega) (by omega) (by omega)) w; rw [hc2] at h; exact h)
                have K3 := Lib.hid (show ∀ w, Calls Tryz.prog 49 #[.string s, .int .i64 ((i : Int) + 3), .int .u8 128, .int .u8 191] w (Ret (.bool true) w) from fun w => by have h := (cont_any s hs ((i : Int) + 3) (i + 3) 128 191 (by push_cast; rfl) (by omega) (by omega) (by omega)) w; rw [hc3] at h; exact h)
                clear hc1 hc2 hc3
                go_enter Tryz.func36, Tryz.ntmps36
                go_wp2_with fail
                go_at_call 49
                refine (K1.out _).mono ?_
                rintro e w' ⟨rfl, rfl⟩
                go_wp2_with fail
                go_at_call 49
                refine (K2.out _).mono ?_
                rintro e w' ⟨rfl, rfl⟩
                go_wp2_with fail
                go_at_call 49
                refine (K3.out _).mono ?_
                rintro e w' ⟨rfl, rfl⟩
                go_wp2
                go_ret
                exact ⟨by rw [HQ.out]; rfl, rfl⟩
        · by_cases e2 : (s.get! i).toNat = 244
          · have L3 : lo4 (s.get! i).toNat = 128 := by unfold lo4; rw [if_neg (by omega)]
            have H3 : hi4 (s.get! i).toNat = 143 := by unfold hi4; rw [if_pos e2]
            have q : s[i].toNat = 244 := by rw [← hg]; exact e2
            clear hg
            cases hc1 : contB s (i + 1) 128 143 with
            | false =>
              have HQ := Lib.hid (show seqN s i = 0 from seq4_no hlt ⟨by omega, by omega⟩ (by rw [L3, H3, hc1]; rfl))
              have K1 := Lib.hid (show ∀ w, Calls Tryz.prog 49 #[.string s, .int .i64 ((i : Int) + 1), .int .u8 128, .int .u8 143] w (Ret (.bool false) w) from fun w => by have h := (cont_any s hs ((i : Int) + 1) (i + 1) 128 143 (by push_cast; rfl) (by omega) (by omega) (by omega)) w; rw [hc1] at h; exact h)
              clear hc1
              go_enter Tryz.func36, Tryz.ntmps36
              go_wp2_with fail
              go_at_call 49
              refine (K1.out _).mono ?_
              rintro e w' ⟨rfl, rfl⟩
              go_wp2
              go_ret
              exact ⟨by rw [HQ.out]; rfl, rfl⟩
            | true =>
              cases hc2 : contB s (i + 2) 128 191 with
              | false =>
                have HQ := Lib.hid (show seqN s i = 0 from seq4_no hlt ⟨by omega, by omega⟩ (by rw [L3, H3, hc1, hc2]; rfl))
                have K1 := Lib.hid (show ∀ w, Calls Tryz.prog 49 #[.string s, .int .i64 ((i : Int) + 1), .int .u8 128, .int .u8 143] w (Ret (.bool true) w) from fun w => by have h := (cont_any s hs ((i : Int) + 1) (i + 1) 128 143 (by push_cast; rfl) (by omega) (by omega) (by omega)) w; rw [hc1] at h; exact h)
                have K2 := Lib.hid (show ∀ w, Calls Tryz.prog 49 #[.string s, .int .i64 ((i : Int) + 2), .int .u8 128, .int .u8 191] w (Ret (.bool false) w) from fun w => by have h := (cont_any s hs ((i : Int) + 2) (i + 2) 128 191 (by push_cast; rfl) (by omega) (by omega) (by omega)) w; rw [hc2] at h; exact h)
                clear hc1 hc2
                go_enter Tryz.func36, Tryz.ntmps36
                go_wp2_with fail
                go_at_call 49
                refine (K1.out _).mono ?_
                rintro e w' ⟨rfl, rfl⟩
                go_wp2_with fail
                go_at_call 49
                refine (K2.out _).mono ?_
                rintro e w' ⟨rfl, rfl⟩
                go_wp2
                go_ret
                exact ⟨by rw [HQ.out]; rfl, rfl⟩
              | true =>
                cases hc3 : contB s (i + 3) 128 191 with
                | false =>
                  have HQ := Lib.hid (show seqN s i = 0 from seq4_no hlt ⟨by omega, by omega⟩ (by rw [L3, H3, hc1, hc2, hc3]; rfl))
                  have K1 := Lib.hid (show ∀ w, Calls Tryz.prog 49 #[.string s, .int .i64 ((i : Int) + 1), .int .u8 128, .int .u8 143] w (Ret (.bool true) w) from fun w => by have h := (cont_any s hs ((i : Int) + 1) (i + 1) 128 143 (by push_cast; rfl) (by omega) (by omega) (by omega)) w; rw [hc1] at h; exact h)
                  have K2 := Lib.hid (show ∀ w, Calls Tryz.prog 49 #[.string s, .int .i64 ((i : Int) + 2), .int .u8 128, .int .u8 191] w (Ret (.bool true) w) from fun w => by have h := (cont_any s hs ((i : Int) + 2) (i + 2) 128 191 (by push_cast; rfl) (by omega) (by omega) (by omega)) w; rw [hc2] at h; exact h)
                  have K3 := Lib.hid (show ∀ w, Calls Tryz.prog 49 #[.string s, .int .i64 ((i : Int) + 3), .int .u8 128, .int .u8 191] w (Ret (.bool false) w) from fun w => by have h := (cont_any s hs ((i : Int) + 3) (i + 3) 128 191 (by push_cast; rfl) (by omega) (by omega) (by omega)) w; rw [hc3] at h; exact h)
                  clear hc1 hc2 hc3
                  go_enter Tryz.func36, Tryz.ntmps36
                  go_wp2_with fail
                  go_at_call 49
                  refine (K1.out _).mono ?_
                  rintro e w' ⟨rfl, rfl⟩
                  go_wp2_with fail
                  go_at_call 49
                  refine (K2.out _).mono ?_
                  rintro e w' ⟨rfl, rfl⟩
                  go_wp2_with fail
                  go_at_call 49
                  refine (K3.out _).mono ?_
                  rintro e w' ⟨rfl, rfl⟩
                  go_wp2
                  go_ret
                  exact ⟨by rw [HQ.out]; rfl, rfl⟩
                | true =>
                  have HQ := Lib.hid (show seqN s i = 4 from seq4_yes hlt ⟨by omega, by omega⟩ (by rw [L3, H3]; exact hc1) hc2 hc3)
                  have K1 := Lib.hid (show ∀ w, Calls Tryz.prog 49 #[.string s, .int .i64 ((i : Int) + 1), .int .u8 128, .int .u8 143] w (Ret (.bool true) w) from fun w => by have h := (cont_any s hs ((i : Int) + 1) (i + 1) 128 143 (by push_cast; rfl) (by omega) (by omega) (by omega)) w; rw [hc1] at h; exact h)
                  have K2 := Lib.hid (show ∀ w, Calls Tryz.prog 49 #[.string s, .int .i64 ((i : Int) + 2), .int .u8 128, .int .u8 191] w (Ret (.bool true) w) from fun w => by have h := (cont_any s hs ((i : Int) + 2) (i + 2) 128 191 (by push_cast; rfl) (by omega) (by omega) (by omega)) w; rw [hc2] at h; exact h)
                  have K3 := Lib.hid (show ∀ w, Calls Tryz.prog 49 #[.string s, .int .i64 ((i : Int) + 3), .int .u8 128, .int .u8 191] w (Ret (.bool true) w) from fun w => by have h := (cont_any s hs ((i : Int) + 3) (i + 3) 128 191 (by push_cast; rfl) (by omega) (by omega) (by omega)) w; rw [hc3] at h; exact h)
                  clear hc1 hc2 hc3
                  go_enter Tryz.func36, Tryz.ntmps36
                  go_wp2_with fail
                  go_at_call 49
                  refine (K1.out _).mono ?_
                  rintro e w' ⟨rfl, rfl⟩
                  go_wp2_with fail
                  go_at_call 49
                  refine (K2.out _).mono ?_
                  rintro e w' ⟨rfl, rfl⟩
                  go_wp2_with fail
                  go_at_call 49
                  refine (K3.out _).mono ?_
                  rintro e w' ⟨rfl, rfl⟩
                  go_wp2
                  go_ret
                  exact ⟨by rw [HQ.out]; rfl, rfl⟩
          · have L3 : lo4 (s.get! i).toNat = 128 := by unfold lo4; rw [if_neg (by omega)]
            have H3 : hi4 (s.get! i).toNat = 191 := by unfold hi4; rw [if_neg (by omega)]
            have q1 : (240 : Int) ≤ (s[i].toNat : Int) := by rw [← hg]; omega
            have q2 : (s[i].toNat : Int) ≤ 244 := by rw [← hg]; omega
            have q3 : ((s[i].toNat : Int) == 240) = false := by rw [← hg, beq_eq_false_iff_ne]; omega
            have q4 : ((s[i].toNat : Int) == 244) = false := by rw [← hg, beq_eq_false_iff_ne]; omega
            clear hg
            cases hc1 : contB s (i + 1) 128 191 with
            | false =>
              have HQ := Lib.hid (show seqN s i = 0 from seq4_no hlt ⟨by omega, by omega⟩ (by rw [L3, H3, hc1]; rfl))
              have K1 := Lib.hid (show ∀ w, Calls Tryz.prog 49 #[.string s, .int .i64 ((i : Int) + 1), .int .u8 128, .int .u8 191] w (Ret (.bool false) w) from fun w => by have h := (cont_any s hs ((i : Int) + 1) (i + 1) 128 191 (by push_cast; rfl) (by omega) (by omega) (by omega)) w; rw [hc1] at h; exact h)
              clear hc1
              go_enter Tryz.func36, Tryz.ntmps36
              go_wp2_with fail
              go_at_call 49
              refine (K1.out _).mono ?_
              rintro e w' ⟨rfl, rfl⟩
              go_wp2
              go_ret
              exact ⟨by rw [HQ.out]; rfl, rfl⟩
            | true =>
              cases hc2 : contB s (i + 2) 128 191 with
              | false =>
                have HQ := Lib.hid (show seqN s i = 0 from seq4_no hlt ⟨by omega, by omega⟩ (by rw [L3, H3, hc1, hc2]; rfl))
                have K1 := Lib.hid (show ∀ w, Calls Tryz.prog 49 #[.string s, .int .i64 ((i : Int) + 1), .int .u8 128, .int .u8 191] w (Ret (.bool true) w) from fun w => by have h := (cont_any s hs ((i : Int) + 1) (i + 1) 128 191 (by push_cast; rfl) (by omega) (by omega) (by omega)) w; rw [hc1] at h; exact h)
                have K2 := Lib.hid (show ∀ w, Calls Tryz.prog 49 #[.string s, .int .i64 ((i : Int) + 2), .int .u8 128, .int .u8 191] w (Ret (.bool false) w) from fun w => by have h := (cont_any s hs ((i : Int) + 2) (i + 2) 128 191 (by push_cast; rfl) (by omega) (by omega) (by omega)) w; rw [hc2] at h; exact h)
                clear hc1 hc2
                go_enter Tryz.func36, Tryz.ntmps36
                go_wp2_with fail
                go_at_call 49
                refine (K1.out _).mono ?_
                rintro e w' ⟨rfl, rfl⟩
                go_wp2_with fail
                go_at_call 49
                refine (K2.out _).mono ?_
                rintro e w' ⟨rfl, rfl⟩
                go_wp2
                go_ret
                exact ⟨by rw [HQ.out]; rfl, rfl⟩
              | true =>
                cases hc3 : contB s (i + 3) 128 191 with
                | false =>
                  have HQ := Lib.hid (show seqN s i = 0 from seq4_no hlt ⟨by omega, by omega⟩ (by rw [L3, H3, hc1, hc2, hc3]; rfl))
                  have K1 := Lib.hid (show ∀ w, Calls Tryz.prog 49 #[.string s, .int .i64 ((i : Int) + 1), .int .u8 128, .int .u8 191] w (Ret (.bool true) w) from fun w => by have h := (cont_any s hs ((i : Int) + 1) (i + 1) 128 191 (by push_cast; rfl) (by omega) (by omega) (by omega)) w; rw [hc1] at h; exact h)
                  have K2 := Lib.hid (show ∀ w, Calls Tryz.prog 49 #[.string s, .int .i64 ((i : Int) + 2), .int .u8 128, .int .u8 191] w (Ret (.bool true) w) from fun w => by have h := (cont_any s hs ((i : Int) + 2) (i + 2) 128 191 (by push_cast; rfl) (by omega) (by omega) (by omega)) w; rw [hc2] at h; exact h)
                  have K3 := Lib.hid (show ∀ w, Calls Tryz.prog 49 #[.string s, .int .i64 ((i : Int) + 3), .int .u8 128, .int .u8 191] w (Ret (.bool false) w) from fun w => by have h := (cont_any s hs ((i : Int) + 3) (i + 3) 128 191 (by push_cast; rfl) (by omega) (by omega) (by omega)) w; rw [hc3] at h; exact h)
                  clear hc1 hc2 hc3
                  go_enter Tryz.func36, Tryz.ntmps36
                  go_wp2_with fail
                  go_at_call 49
                  refine (K1.out _).mono ?_
                  rintro e w' ⟨rfl, rfl⟩
                  go_wp2_with fail
                  go_at_call 49
                  refine (K2.out _).mono ?_
                  rintro e w' ⟨rfl, rfl⟩
                  go_wp2_with fail
                  go_at_call 49
                  refine (K3.out _).mono ?_
                  rintro e w' ⟨rfl, rfl⟩
                  go_wp2
                  go_ret
                  exact ⟨by rw [HQ.out]; rfl, rfl⟩
                | true =>
                  have HQ := Lib.hid (show seqN s i = 4 from seq4_yes hlt ⟨by omega, by omega⟩ (by rw [L3, H3]; exact hc1) hc2 hc3)
                  have K1 := Lib.hid (show ∀ w, Calls Tryz.prog 49 #[.string s, .int .i64 ((i : Int) + 1), .int .u8 128, .int .u8 191] w (Ret (.bool true) w) from fun w => by have h := (cont_any s hs ((i : Int) + 1) (i + 1) 128 191 (by push_cast; rfl) (by omega) (by omega) (by omega)) w; rw [hc1] at h; exact h)
                  have K2 := Lib.hid (show ∀ w, Calls Tryz.prog 49 #[.string s, .int .i64 ((i : Int) + 2), .int .u8 128, .int .u8 191] w (Ret (.bool true) w) from fun w => by have h := (cont_any s hs ((i : Int) + 2) (i + 2) 128 191 (by push_cast; rfl) (by omega) (by omega) (by omega)) w; rw [hc2] at h; exact h)
                  have K3 := Lib.hid (show ∀ w, Calls Tryz.prog 49 #[.string s, .int .i64 ((i : Int) + 3), .int .u8 128, .int .u8 191] w (Ret (.bool true) w) from fun w => by have h := (cont_any s hs ((i : Int) + 3) (i + 3) 128 191 (by push_cast; rfl) (by omega) (by omega) (by omega)) w; rw [hc3] at h; exact h)
                  clear hc1 hc2 hc3
                  go_enter Tryz.func36, Tryz.ntmps36
                  go_wp2_with fail
                  go_at_call 49
                  refine (K1.out _).mono ?_
                  rintro e w' ⟨rfl, rfl⟩
                  go_wp2_with fail
                  go_at_call 49
                  refine (K2.out _).mono ?_
                  rintro e w' ⟨rfl, rfl⟩
                  go_wp2_with fail
                  go_at_call 49
                  refine (K3.out _).mono ?_
                  rintro e w' ⟨rfl, rfl⟩
                  go_wp2
                  go_ret
                  exact ⟨by rw [HQ.out]; rfl, rfl⟩
      · have HQ := Lib.hid (show seqN s i = 0 from seq_other hlt hb (by omega))
        by_cases e1 : (s.get! i).toNat < 194
        · have q1 : (s[i].toNat : Int) < 194 := by rw [← hg]; omega
          have q0 : (128 : Int) ≤ (s[i].toNat : Int) := by rw [← hg]; omega
          clear hg
          go_enter Tryz.func36, Tryz.ntmps36
          go_wp2
          go_ret
          exact ⟨by rw [HQ.out]; rfl, rfl⟩
        · have q1 : (244 : Int) < (s[i].toNat : Int) := by rw [← hg]; omega
          clear hg
          go_enter Tryz.func36, Tryz.ntmps36
          go_wp2
          go_ret
          exact ⟨by rw [HQ.out]; rfl, rfl⟩
end Go.Proofs.YtdkccihoecpcaaaGreatFmt
