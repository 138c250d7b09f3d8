/- flatten by a, then by b, against flatten by a + b: the law walked. Conditions: none. -/
import Derived.Test.YtlhndkonhjjcgaaGreatDoorFn
import Derived.Test.YtlhndkonhjjcgaaGreatDoorDep
namespace Go.Proofs.YtlhndkonhjjcgaaGreatDoor
open Go.RowKit Go
def LawPost (w : World) (e : Ending) (w' : World) : Prop := e = .returned (.bool true) ∧ Below w.heap.size w w'
set_option maxRecDepth 100000 in
theorem bytesFC_yes (ta va : Option Addr) (nt nv tc vc : Nat) (a b : Int) (h : nt + nv ≤ 1048576) (w : World) : Calls Tryz.prog 5 #[.slice ta nt tc, .slice va nv vc, .int .i64 a, .int .i64 b] w (Ret (.bool true) w) := by
  go_enter Tryz.func5, Tryz.ntmps5
  go_wp2
  go_ret
  exact ⟨rfl, rfl⟩
set_option maxRecDepth 100000 in
theorem bytesFC_no (ta va : Option Addr) (nt nv tc vc : Nat) (a b : Int) (h : 1048576 < nt + nv) (h1 : nt ≤ 9223372036854775807) (h2 : nv ≤ 9223372036854775807) (w : World) : Calls Tryz.prog 5 #[.slice ta nt tc, .slice va nv vc, .int .i64 a, .int .i64 b] w (Ret (.bool false) w) := by
  by_cases e1 : 1048576 < nt
  · go_enter Tryz.func5, Tryz.ntmps5
    go_wp2
    go_ret
    exact ⟨rfl, rfl⟩
  · by_cases e2 : 1048576 < nv
    · go_enter Tryz.func5, Tryz.ntmps5
      go_wp2
      go_ret
      exact ⟨rfl, rfl⟩
    · go_enter Tryz.func5, Tryz.ntmps5
      go_wp2
      go_ret
      exact ⟨rfl, rfl⟩
/-- The two rows as one list of tokens. -/
theorem tokens_of : ∀ (tz vz : List Int), tz.length = vz.length → (∀ t ∈ tz, 0 ≤ t) → ∃ L : List (Nat × Int), tz = L.map (fun t => (t.1 : Int)) ∧ vz = L.map (fun t => t.2)
  | [], [], _, _ => ⟨[], rfl, rfl⟩
  | [], _ :: _, h, _ => by simp at h
  | _ :: _, [], h, _ => by simp at h
  | t :: tz, v :: vz, h, hp => by
    obtain ⟨L, h1, h2⟩ := tokens_of tz vz (by simpa using h) (fun t ht => hp t (List.mem_cons_of_mem _ ht))
    have h0 := hp t List.mem_cons_self
    exact ⟨(t.toNat, v) :: L, by simp [h1]; omega, by simp [h2]⟩
theorem wfT_wf : ∀ (L : List (Nat × Int)) (l : Nat), wfT (L.map (fun t => (t.1 : Int))) l = wf L l
  | [], _ => rfl
  | t :: L, l => by
    rw [List.map_cons, wfT, wf, wfT_wf L, wfT_wf L, wfT_wf L]
    by_cases h1 : t.1 = 1
    · rw [if_pos h1, if_pos (by omega)]
    · rw [if_neg h1, if_neg (by omega)]
      by_cases h2 : t.1 = 2
      · rw [if_pos h2, if_pos (by omega)]
      · rw [if_neg h2, if_neg (by omega)]
theorem toks_of {w1 w2 : World} {ta va : Option Addr} {L : List (Nat × Int)} (h1 : ArrIn (· < w1.heap.size) w1 ta ((L.map (fun t => (t.1 : Int))).map (Value.int .u8))) (hb : Below w1.heap.size w1 w2) (h2 : ArrIn (· < w2.heap.size) w2 va ((L.map (fun t => t.2)).map (Value.int .i64))) : Toks w2 ta va L := by
  rw [List.map_map] at h1 h2
  exact ⟨(h1.keep (fun g hg => hb.block g hg)).up (fun _ hg => Nat.lt_of_lt_of_le hg hb.size), h2⟩
theorem below_drewN {w : World} (n : Nat) : Below w.heap.size w (w.drewN n) := ⟨rfl, rfl, rfl, Nat.le_refl _, fun _ _ => rfl⟩
/-- What the law does behind its guards. -/
theorem depth_facts (f : Fo) (n : Nat) (hn : n ≤ 131072) : Dok f.deep (floatOfInt .f64 (n : Int)) (some n) ∧ ltF (floatOfInt .f64 (n : Int)) 0 = false := by
  obtain ⟨u, h1, h2, h3⟩ := of_nat n (by unfold E52; omega)
  rw [h2]
  exact ⟨dok_nat _ n false u (by unfold E52; omega) (by simp) h1 h3, lt_zero_pos false u h1 (by simp)⟩
set_option maxRecDepth 100000 in
set_option maxHeartbeats 6400000 in
theorem lawFC (ta va : Option Addr) (tc vc : Nat) (tz vz : List Int) (a b : Int) (w : World) (hs1 : ArgIn .u8 w ta tc tz) (hs2 : ArgIn .i64 w va vc vz) (hm1 : tz.length ≤ 9223372036854775807) (hm2 : vz.length ≤ 9223372036854775807) (ht0 : ∀ t ∈ tz, 0 ≤ t) (ha : -9223372036854775808 ≤ a ∧ a ≤ 9223372036854775807) (hb : -9223372036854775808 ≤ b ∧ b ≤ 9223372036854775807) :
    Calls Tryz.prog 3 #[.slice ta tz.length tc, .slice va vz.length vc, .int .i64 a, .int .i64 b] w (LawPost w) := by
  have H1 := Lib.hid hs1
  have H2 := Lib.hid hs2
  have H0 := Lib.hid ht0
  clear hs1 hs2 ht0
  by_cases hy : tz.length + vz.length ≤ 1048576
  · have HY := Lib.hid (bytesFC_yes ta va tz.length vz.length tc vc a b hy)
    by_cases hsz : tz.length + 8 * vz.length ≤ 1048576 ∧ 0 ≤ a ∧ a ≤ 65536 ∧ 0 ≤ b ∧ b ≤ 65536
    · obtain ⟨hsz, a0, a1, b0, b1⟩ := hsz
      by_cases hnn : tz.length = vz.length
      · obtain ⟨L, rfl, rfl⟩ := tokens_of tz vz hnn H0.out
        have HW := Lib.hid (wf_any ta tc _ w (by omega) H1.out)
        rw [wfT_wf] at HW
        simp only [List.length_map] at *
        cases hwf : wf L 0 with
        | false =>
          rw [hwf] at HW
          clear hwf
          generalize L.length = n at *
          go_enter Tryz.func3, Tryz.ntmps3
          go_wp2_with (go_at_call 5; refine (HY.out _).mono ?_; rintro e w' ⟨rfl, rfl⟩)
          try go_at_call 6
          refine HW.out.mono ?_
          rintro e w' ⟨rfl, nq, rfl⟩
          go_wp2
          go_ret
          exact ⟨rfl, below_drewN nq⟩
        | true =>
          rw [hwf] at HW
          obtain ⟨f, hf⟩ := wf_enc L hwf
          have HF := Lib.hid hf
          obtain ⟨x, rfl⟩ : ∃ x : Nat, a = (x : Int) := ⟨a.toNat, by omega⟩
          obtain ⟨y, rfl⟩ : ∃ y : Nat, b = (y : Int) := ⟨b.toNat, by omega⟩
          have HSz := Lib.hid (show f.size = L.length from by rw [← Fo.enc_len, ← hf, List.length_map])
          clear hf hwf
          have HLz := Lib.hid (show L.length ≤ 1048576 from by omega)
          have HX := Lib.hid (depth_facts f x (by omega))
          have HY1 := Lib.hid (depth_facts (f.flat (some x)) y (by omega))
          have HXY := Lib.hid (depth_facts f (x + y) (by omega))
          have HC1 := Lib.hid (fun W hW => cloneB ta tc _ W (by rw [List.length_map]; omega) (H1.out.below hW))
          have HC2 := Lib.hid (fun W hW => cloneI va vc _ W (by rw [List.length_map]; omega) (H2.out.below hW))
          simp only [List.length_map] at HC1 HC2
          obtain ⟨n, hn⟩ : ∃ n, L.length = n := ⟨_, rfl⟩
          have HN := Lib.hid hn
          rw [hn] at HY HC1 HC2 HW hsz hy ⊢
          clear hn hnn hm1 hm2
          go_enter Tryz.func3, Tryz.ntmps3
          go_wp2_with (go_at_call 5; refine (HY.out _).mono ?_; rintro e w' ⟨rfl, rfl⟩)
          try go_at_call 6
          refine HW.out.mono ?_
          rintro e w' ⟨rfl, nq, rfl⟩
          go_wp2_with fail
          try go_at_call 7
          refine (HC1.out _ (below_drewN nq)).mono ?_
          rintro e w1 ⟨ta1, tc1, rfl, k1, kb1⟩
          have HK1 := Lib.hid k1
          have HB1 := Lib.hid (show Below w.heap.size w w1 from (below_drewN nq).trans kb1)
          clear k1 kb1 HC1 HW
          go_wp2_with fail
          try go_at_call 8
          refine (HC2.out _ HB1.out).mono ?_
          rintro e w2 ⟨va1, vc1, rfl, k2, kb2⟩
          have HT2 := Lib.hid (toks_of HK1.out kb2 k2)
          have HB2 := Lib.hid (HB1.out.trans (kb2.mono HB1.out.size))
          clear k2 kb2 HC2 HK1 HB1
          have HZ1 := Lib.hid (zz_depth L HLz.out f HF.out (some x) _ HX.out.1 HX.out.2 ta1 va1 tc1 vc1 w2 HT2.out)
          rw [HN.out] at HZ1
          go_wp2_with fail
          try go_at_call 9
          refine HZ1.out.mono ?_
          rintro e w3 ⟨ta3, c3, va3, d3, rfl, k3, kb3⟩
          have HT3 := Lib.hid k3
          have HL3 := Lib.hid (HT2.out.below kb3)
          have HB3 := Lib.hid (HB2.out.trans (kb3.mono HB2.out.size))
          clear k3 kb3 HT2 HB2 HZ1
          have HLz3 := Lib.hid (show (f.flat (some x)).enc.length ≤ 1048576 from by have := Fo.flat_size f (some x); have := HSz.out; have := HLz.out; rw [Fo.enc_len]; omega)
          have HZ2 := Lib.hid (zz_depth _ HLz3.out (f.flat (some x)) (enc_norm _) (some y) _ HY1.out.1 HY1.out.2 ta3 va3 c3 d3 w3 HT3.out)
          rw [Fo.flat_flat] at HZ2
          generalize (f.flat (some x)).enc.length = n3 at HZ2 ⊢
          go_wp2_with fail
          try go_at_call 9
          refine HZ2.out.mono ?_
          rintro e w4 ⟨ta4, c4, va4, d4, rfl, k4, kb4⟩
          have HT4 := Lib.hid k4
          have HL4 := Lib.hid (HL3.out.below kb4)
          have HB4 := Lib.hid (HB3.out.trans (kb4.mono HB3.out.size))
          clear k4 kb4 HT3 HL3 HB3 HZ2
          have HZ3 := Lib.hid (zz_depth L HLz.out f HF.out (some (x + y)) _ HXY.out.1 HXY.out.2 ta1 va1 tc1 vc1 w4 HL4.out)
          rw [HN.out, Int.natCast_add] at HZ3
          have HQ := Lib.hid (show (f.flat (some (x + y))).enc.length ≤ 1048576 from by have := Fo.flat_size f (some (x + y)); have := HSz.out; have := HLz.out; rw [Fo.enc_len]; omega)
          go_wp2_with fail
          try go_at_call 9
          refine HZ3.out.mono ?_
          rintro e w5 ⟨ta5, c5, va5, d5, rfl, k5, kb5⟩
          have HT5 := Lib.hid k5
          have HL5 := Lib.hid (HT4.out.below kb5)
          have HB5 := Lib.hid (HB4.out.trans (kb5.mono HB4.out.size))
          clear k5 kb5 HT4 HL4 HB4 HZ3
          obtain ⟨g, hg⟩ : ∃ g, g = (f.flat (some (x + y))).enc := ⟨_, rfl⟩
          rw [← hg] at HT5 HL5 HQ ⊢
          clear hg
          have HE1 := Lib.hid (fun W (hW : Below w5.heap.size w5 W) => eqB (· < W.heap.size) (· < W.heap.size) (g.map fun t => (t.1 : Int)) ta4 ta5 c4 c5 W (by rw [List.length_map]; exact HQ.out) (by rw [List.map_map]; exact (HL5.out.below hW).1) (by rw [List.map_map]; exact (HT5.out.below hW).1))
          have HE2 := Lib.hid (fun W (hW : Below w5.heap.size w5 W) => eqI (· < W.heap.size) (· < W.heap.size) (g.map fun t => t.2) va4 va5 d4 d5 W (by rw [List.length_map]; exact HQ.out) (by rw [List.map_map]; exact (HL5.out.below hW).2) (by rw [List.map_map]; exact (HT5.out.below hW).2))
          simp only [List.length_map] at HE1 HE2
          generalize g.length = ng at HE1 HE2 ⊢
          go_wp2_with fail
          try go_at_call 10
          refine (HE1.out _ (Below.refl _ _)).mono ?_
          rintro e w6 ⟨rfl, n6, rfl⟩
          go_wp2_with fail
          try go_at_call 11
          refine (HE2.out _ (below_drewN n6)).mono ?_
          rintro e w7 ⟨rfl, n7, rfl⟩
          go_wp2
          go_ret
          exact ⟨rfl, HB5.out.trans ⟨rfl, rfl, rfl, Nat.le_refl _, fun _ _ => rfl⟩⟩
      · have hne : ((tz.length : Int) != (vz.length : Int)) = true := by rw [bne_iff_ne]; omega
        generalize tz.length = n1 at *
        generalize vz.length = n2 at *
        go_enter Tryz.func3, Tryz.ntmps3
        go_wp2_with (go_at_call 5; refine (HY.out _).mono ?_; rintro e w' ⟨rfl, rfl⟩)
        go_ret
        exact ⟨rfl, Below.refl _ _⟩
    · generalize tz.length = n1 at *
      generalize vz.length = n2 at *
      by_cases q1 : n1 + 8 * n2 ≤ 1048576
      · by_cases q2 : a < 0
        · go_enter Tryz.func3, Tryz.ntmps3
          go_wp2_with (go_at_call 5; refine (HY.out _).mono ?_; rintro e w' ⟨rfl, rfl⟩)
          go_ret
          exact ⟨rfl, Below.refl _ _⟩
        · by_cases q3 : 65536 < a
          · go_enter Tryz.func3, Tryz.ntmps3
            go_wp2_with (go_at_call 5; refine (HY.out _).mono ?_; rintro e w' ⟨rfl, rfl⟩)
            go_ret
            exact ⟨rfl, Below.refl _ _⟩
          · by_cases q4 : b < 0
            · go_enter Tryz.func3, Tryz.ntmps3
              go_wp2_with (go_at_call 5; refine (HY.out _).mono ?_; rintro e w' ⟨rfl, rfl⟩)
              go_ret
              exact ⟨rfl, Below.refl _ _⟩
            · have q5 : 65536 < b := by omega
              go_enter Tryz.func3, Tryz.ntmps3
              go_wp2_with (go_at_call 5; refine (HY.out _).mono ?_; rintro e w' ⟨rfl, rfl⟩)
              go_ret
              exact ⟨rfl, Below.refl _ _⟩
      · have q2 : 1048576 < n1 + 8 * n2 := by omega
        go_enter Tryz.func3, Tryz.ntmps3
        go_wp2_with (go_at_call 5; refine (HY.out _).mono ?_; rintro e w' ⟨rfl, rfl⟩)
        go_ret
        exact ⟨rfl, Below.refl _ _⟩
  · have HY := Lib.hid (bytesFC_no ta va tz.length vz.length tc vc a b (by omega) hm1 hm2)
    generalize tz.length = n1 at *
    generalize vz.length = n2 at *
    go_enter Tryz.func3, Tryz.ntmps3
    go_wp2_with (go_at_call 5; refine (HY.out _).mono ?_; rintro e w' ⟨rfl, rfl⟩)
    go_ret
    exact ⟨rfl, Below.refl _ _⟩
end Go.Proofs.YtlhndkonhjjcgaaGreatDoor
