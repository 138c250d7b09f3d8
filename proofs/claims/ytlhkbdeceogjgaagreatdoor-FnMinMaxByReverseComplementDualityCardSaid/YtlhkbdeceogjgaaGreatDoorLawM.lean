/- The two laws of the seat, walked. Conditions: none. -/
import Derived.Test.YtlhkbdeceogjgaaGreatDoorMinMax
namespace Go.Proofs.YtlhkbdeceogjgaaGreatDoor
open Go.RowKit Go
theorem compl_i64 (x : Int) (h : -9223372036854775808 ≤ x ∧ x ≤ 9223372036854775807) : bits .xor .i64 (-1) x = -x - 1 := by
  show IntKind.i64.wrap ((BitVec.ofInt 64 (-1) ^^^ BitVec.ofInt 64 x).toNat : Int) = -x - 1
  have h1 : BitVec.ofInt 64 (-1) = BitVec.allOnes 64 := by decide
  rw [h1, BitVec.allOnes_xor, BitVec.toNat_not, BitVec.toNat_ofInt]
  simp only [IntKind.wrap, IntKind.bits, IntKind.signed]
  have h2 : (2 : Int) ^ 64 = 18446744073709551616 := by decide
  have h3 : (2 : Int) ^ (64 - 1) = 9223372036854775808 := by decide
  have h4 : (2 : Nat) ^ 64 = 18446744073709551616 := by decide
  simp only [h2, h3, h4, Bool.true_and, decide_eq_true_eq, ge_iff_le]
  split <;> omega
set_option maxRecDepth 100000 in
theorem bytesMax (ao : Option Addr) (c n : Nat) (ha : n ≤ 9223372036854775807) (w : World) : Calls Tryz.prog 46 #[.slice ao n c] w (Ret (.bool (decide (n ≤ 1048576))) w) := by
  by_cases h1 : n ≤ 1048576
  · go_enter Tryz.func46, Tryz.ntmps46
    go_wp2
    go_ret
    exact ⟨ret_bool (by simp [h1]), rfl⟩
  · have h1' : 1048576 < n := by omega
    go_enter Tryz.func46, Tryz.ntmps46
    go_wp2
    go_ret
    exact ⟨ret_bool (by simp; omega), rfl⟩
set_option maxRecDepth 100000 in
theorem bytesDual (ao bo : Option Addr) (c1 c2 n m : Nat) (ha : n ≤ 9223372036854775807) (hb : m ≤ 9223372036854775807) (w : World) : Calls Tryz.prog 33 #[.slice ao n c1, .slice bo m c2] w (Ret (.bool (decide (n + m ≤ 1048576))) w) := by
  have hsum : n ≤ 1048576 → m ≤ 1048576 → IntKind.i64.wrap ((n : Int) + m) = n + m := fun h1 h2 => IntWalk.i64_in _ (by omega)
  by_cases h1 : n ≤ 1048576
  · by_cases h2 : m ≤ 1048576
    · by_cases h3 : n + m ≤ 1048576
      · go_enter Tryz.func33, Tryz.ntmps33
        go_wp2
        go_ret
        exact ⟨ret_bool (by simp [h3]), rfl⟩
      · have h3' : 1048576 < n + m := by omega
        go_enter Tryz.func33, Tryz.ntmps33
        go_wp2
        go_ret
        exact ⟨ret_bool (by simp [h3]), rfl⟩
    · have h2' : 1048576 < m := by omega
      go_enter Tryz.func33, Tryz.ntmps33
      go_wp2
      go_ret
      exact ⟨ret_bool (by simp; omega), rfl⟩
  · have h1' : 1048576 < n := by omega
    go_enter Tryz.func33, Tryz.ntmps33
    go_wp2
    go_ret
    exact ⟨ret_bool (by simp; omega), rfl⟩
theorem zz_minMax_n (ao bo : Option Addr) (c1 c2 n : Nat) (V K : List Int) (isMin : Bool) (w : World) (hV : V.length = n) (hK : K.length = n) (hn : n ≤ 1048576) (hs : IntsArg w ao c1 V) (ht : IntsArg w bo c2 K) :
    Calls Tryz.prog 35 #[.slice ao n c1, .slice bo n c2, .bool isMin] w fun e w' => e = .returned (.tuple #[.int .i64 (mmK V), .int .i64 (mmV isMin V K)]) ∧ Below w.heap.size w w' := by
  have h := zz_minMax ao bo c1 c2 V K isMin w (by rw [hV, hK]) (by rw [hK]; exact hn) hs ht
  rw [hV, hK] at h
  exact h
theorem zz_dual_n (ao bo : Option Addr) (c1 c2 n : Nat) (V K : List Int) (isMin : Bool) (w : World) (hV : V.length = n) (hK : K.length = n) (hn : n ≤ 1048576) (hs : IntsArg w ao c1 V.reverse) (ht : IntsArg w bo c2 (flip K)) :
    Calls Tryz.prog 35 #[.slice ao n c1, .slice bo n c2, .bool (!isMin)] w fun e w' => e = .returned (.tuple #[.int .i64 (mmK V), .int .i64 (mmV isMin V K)]) ∧ Below w.heap.size w w' := by
  have h := zz_minMax_n ao bo c1 c2 n V.reverse (flip K) (!isMin) w (by rw [List.length_reverse, hV]) (by rw [length_flip, hK]) hn hs ht
  have hd := mmV_dual V K (by rw [hV, hK])
  rw [mmK_rev] at h
  cases isMin
  · rw [Bool.not_false, hd.2] at h; exact h
  · rw [Bool.not_true, hd.1] at h; exact h
/-- The world with the two slices that the law makes, k elements filled. -/
def twoMade (w : World) (V K : List Int) (k : Nat) : World := (w.alloc (.cells (copied V.reverse k) 3)).alloc (.cells (copied (flip K) k) 3)
theorem twoMade_fst (w : World) (V K : List Int) (n c : Nat) (hV : V.length = n) : IntsArg (twoMade w V K n) (some ⟨w.heap.size, 0, none⟩) c V.reverse := by
  have hl : V.reverse.length = n := by rw [List.length_reverse, hV]
  refine ⟨fun h => (by simp at h), fun k hk => ⟨_, _, rfl, ?_⟩⟩
  unfold twoMade
  rw [Nat.zero_add, World.cell?_alloc2_first, ← hl, copied_all _ k hk]
theorem twoMade_snd (w : World) (V K : List Int) (n c : Nat) (hK : K.length = n) : IntsArg (twoMade w V K n) (some ⟨w.heap.size + 1, 0, none⟩) c (flip K) := by
  have hl : (flip K).length = n := by rw [length_flip, hK]
  refine ⟨fun h => (by simp at h), fun k hk => ⟨_, _, rfl, ?_⟩⟩
  unfold twoMade
  rw [Nat.zero_add, World.cell?_alloc2_new, ← hl, copied_all _ k hk]
theorem twoMade_below (w : World) (V K : List Int) (k : Nat) : Below w.heap.size w (twoMade w V K k) :=
  ((Below.refl _ _).alloc (Nat.le_refl _) _).alloc (by simp) _
set_option maxRecDepth 100000 in
set_option maxHeartbeats 1600000 in
theorem lawDual (ao bo : Option Addr) (c1 c2 : Nat) (V K : List Int) (w : World) (ha : V.length ≤ 9223372036854775807) (hb : K.length ≤ 9223372036854775807) (hs : IntsArg w ao c1 V) (ht : IntsArg w bo c2 K)
    (hr : ∀ z ∈ K, -9223372036854775808 ≤ z ∧ z ≤ 9223372036854775807) :
    Calls Tryz.prog 9 #[.slice ao V.length c1, .slice bo K.length c2] w fun e w' => e = .returned (.bool true) ∧ Below w.heap.size w w' := by
  by_cases h3 : V.length + K.length ≤ 1048576
  · by_cases h4 : V.length ≤ 65536 ∧ K.length ≤ 65536
    · obtain ⟨h4, h4'⟩ := h4
      by_cases h5 : V.length = K.length
      · have hnb : ((V.length : Int) != K.length) = false := by simp [h5]
        have H5 := Lib.hid h5
        have hl1 : V.length ≤ 1048576 := by omega
        have hl2 : K.length ≤ 1048576 := by omega
        have hmkH := fun (w2 : World) => makeInts_any w2 V.length (flip K) (by rw [length_flip, h5]) hl1
        have HMK := Lib.hid hmkH
        clear hmkH h5
        go_enter Tryz.func9, Tryz.ntmps9
        go_wp2_with (go_at_call 33; refine (bytesDual _ _ _ _ _ _ ha hb _).mono ?_; rintro e w' ⟨rfl, rfl⟩)
        go_wp2_with fail
        refine (clone_any _ _ _ _ hl1 hs).mono ?_
        rintro e w1 ⟨a1, k1, rfl, i1, b1⟩
        go_wp2_with fail
        refine (clone_any _ _ _ _ hl2 (ht.below b1)).mono ?_
        rintro e w2 ⟨a2, k2, rfl, i2, b2⟩
        have I1 := Lib.hid (i1.below b2)
        have I2 := Lib.hid i2
        have HB := Lib.hid (b1.trans (b2.mono b1.size))
        have HS := Lib.hid (Nat.le_trans b1.size b2.size)
        have HR := Lib.hid hr
        have hmk1 := makeInts_any w2 V.length V.reverse (by simp) hl1
        have hmk2 := HMK.out (w2.alloc (.cells (copied V.reverse 0) 3))
        clear hs ht i1 i2 b1 b2 hr hb
        go_wp2
        go_loopw [8] (fun i wr => ∃ k : Nat, k ≤ V.length ∧ i = .int .i64 k ∧ wr = (w2.alloc (.cells (copied V.reverse k) 3)).alloc (.cells (copied (flip K) k) 3)) (fun i _ => V.length - (intOf i).toNat)
        case atStart => exact ⟨0, Nat.zero_le _, rfl, rfl⟩
        case round =>
          obtain ⟨k, hk, rfl, rfl⟩ := hrel
          clear hmk1 hmk2
          by_cases hlt : k < V.length
          · obtain ⟨m, hm⟩ : ∃ m, m = V.length - 1 := ⟨_, rfl⟩
            obtain ⟨j, hj⟩ : ∃ j, j = m - k := ⟨_, rfl⟩
            have hw1 : IntKind.i64.wrap ((V.length : Int) - 1) = m := by rw [IntWalk.i64_in _ (by omega)]; omega
            have hw2 : IntKind.i64.wrap ((m : Int) - k) = j := by rw [IntWalk.i64_in _ (by omega)]; omega
            have hjv : j < V.length := by omega
            have hjk : j < K.length := by have := H5.out; omega
            obtain ⟨b, off, hao, hc⟩ := I1.out.at' j hjv
            subst hao
            obtain ⟨b', off', hbo, hc'⟩ := I2.out.at' j hjk
            subst hbo
            have hb1 : b < w2.heap.size := World.block_lt_of_cell? _ _ hc
            have hb2 : b' < w2.heap.size := World.block_lt_of_cell? _ _ hc'
            have hset1 : (copied V.reverse k).setIfInBounds k (.int .i64 (geti V j)) = copied V.reverse (k + 1) := by
              rw [← copied_set V.reverse k (by simpa using hlt), geti_rev V k hlt, show V.length - 1 - k = j from by omega]
            have hget1 := copied_get V.reverse k (by simpa using hlt)
            have hcm : bits .xor .i64 (-1) (geti K j) = -geti K j - 1 := compl_i64 _ (HR.out _ (by simp [geti, List.getD_eq_getElem?_getD, hjk]))
            have hset2 : (copied (flip K) k).setIfInBounds k (.int .i64 (-geti K j - 1)) = copied (flip K) (k + 1) := by
              have hkk : k < K.length := by have := H5.out; omega
              rw [← copied_set (flip K) k (by rw [length_flip]; exact hkk), geti_flip K k hkk, show K.length - 1 - k = j from by have := H5.out; omega]
            have hget2 := copied_get (flip K) k (by rw [length_flip]; have := H5.out; omega)
            clear hm hj
            go_wp2
            go_roundw
            case rel => exact ⟨k + 1, by omega, by go_num, by first | rfl | (rw [if_pos (show IntKind.i64.signed = true from rfl), hcm, hset2])⟩
            case measure => simp [intOf]; omega
          · obtain rfl : k = V.length := by omega
            change Hid _ at HB
            have hX : (w2.alloc (.cells (copied V.reverse V.length) 3)).alloc (.cells (copied (flip K) V.length) 3) = twoMade w2 V K V.length := rfl
            rw [hX]
            have x1 := I1.out.below (twoMade_below w2 V K V.length)
            have x2 := I2.out.below (twoMade_below w2 V K V.length)
            have y1 := twoMade_fst w2 V K V.length V.length rfl
            have y2 := twoMade_snd w2 V K V.length V.length H5.out.symm
            have HX := Lib.hid (HB.out.trans ((twoMade_below w2 V K V.length).mono HS.out))
            clear hX
            generalize twoMade w2 V K V.length = X at *
            rw [← H5.out]
            go_wp2_with fail
            refine (zz_minMax_n a1 a2 k1 k2 V.length V K true X rfl H5.out.symm (by omega) x1 x2).mono ?_
            rintro e w3 ⟨rfl, b3⟩
            have z1 := x1.below b3
            have z2 := x2.below b3
            have v1 := y1.below b3
            have v2 := y2.below b3
            go_wp2_with fail
            refine (zz_dual_n _ _ _ _ V.length V K true w3 rfl H5.out.symm (by omega) v1 v2).mono ?_
            rintro e w4 ⟨rfl, b4⟩
            have s1 := z1.below b4
            have s2 := z2.below b4
            have t1 := v1.below b4
            have t2 := v2.below b4
            go_wp2_with fail
            refine (zz_minMax_n a1 a2 k1 k2 V.length V K false w4 rfl H5.out.symm (by omega) s1 s2).mono ?_
            rintro e w5 ⟨rfl, b5⟩
            have u1 := t1.below b5
            have u2 := t2.below b5
            go_wp2_with fail
            refine (zz_dual_n _ _ _ _ V.length V K false w5 rfl H5.out.symm (by omega) u1 u2).mono ?_
            rintro e w6 ⟨rfl, b6⟩
            have n3 := Nat.le_trans HX.out.size b3.size
            have n4 := Nat.le_trans n3 b4.size
            have n5 := Nat.le_trans n4 b5.size
            have HF := Lib.hid ((((HX.out.trans (b3.mono HX.out.size)).trans (b4.mono n3)).trans (b5.mono n4)).trans (b6.mono n5))
            clear x1 x2 y1 y2 z1 z2 v1 v2 s1 s2 t1 t2 u1 u2 b3 b4 b5 b6 n3 n4 n5
            go_wp2
            go_ret
            exact ⟨rfl, HF.out⟩
      · have hnb : ((V.length : Int) != K.length) = true := by simp [bne]; omega
        go_enter Tryz.func9, Tryz.ntmps9
        go_wp2_with (go_at_call 33; refine (bytesDual _ _ _ _ _ _ ha hb _).mono ?_; rintro e w' ⟨rfl, rfl⟩)
        all_goals (go_ret; exact ⟨rfl, Below.refl _ _⟩)
    · go_enter Tryz.func9, Tryz.ntmps9
      go_wp2_with (go_at_call 33; refine (bytesDual _ _ _ _ _ _ ha hb _).mono ?_; rintro e w' ⟨rfl, rfl⟩)
      all_goals (go_ret; exact ⟨rfl, Below.refl _ _⟩)
  · have h3' : 1048576 < V.length + K.length := by omega
    go_enter Tryz.func9, Tryz.ntmps9
    go_wp2_with (go_at_call 33; refine (bytesDual _ _ _ _ _ _ ha hb _).mono ?_; rintro e w' ⟨rfl, rfl⟩)
    go_ret
    exact ⟨rfl, Below.refl _ _⟩
def foundTo (V : List Int) (v : Int) : Nat → Bool
  | 0 => false
  | k + 1 => foundTo V v k || geti V k == v
theorem foundTo_hit (V : List Int) (v : Int) (i : Nat) (h : geti V i = v) : ∀ k, i < k → foundTo V v k = true
  | 0, hk => by omega
  | k + 1, hk => by
    rw [foundTo]
    by_cases e : i = k
    · rw [← e, h]; simp
    · rw [foundTo_hit V v i h k (by omega)]; rfl
theorem foundTo_yes (V : List Int) (v : Int) (k : Nat) (h : (geti V k == v) = true) : foundTo V v (k + 1) = true := by rw [foundTo, h, Bool.or_true]
theorem foundTo_no (V : List Int) (v : Int) (k : Nat) (h : (geti V k == v) = false) : foundTo V v (k + 1) = foundTo V v k := by rw [foundTo, h, Bool.or_false]
set_option maxRecDepth 100000 in
set_option maxHeartbeats 1600000 in
theorem lawMax (ao : Option Addr) (c1 : Nat) (V : List Int) (w : World) (ha : V.length ≤ 9223372036854775807) (hs : IntsArg w ao c1 V) :
    Calls Tryz.prog 11 #[.slice ao V.length c1] w fun e w' => e = .returned (.bool true) ∧ Below w.heap.size w w' := by
  by_cases h3 : V.length ≤ 1048576
  · by_cases h4 : V.length ≤ 131072
    · by_cases h0 : V.length = 0
      · have hk : mmK V = 0 := by unfold mmK; rw [if_pos (List.length_eq_zero_iff.1 h0)]
        have hzb : ((V.length : Int) == 0) = true := by simp [h0]
        clear h0
        go_enter Tryz.func11, Tryz.ntmps11
        go_wp2_with (go_at_call 46; refine (bytesMax _ _ _ ha _).mono ?_; rintro e w' ⟨rfl, rfl⟩)
        go_wp2_with fail
        refine (clone_any _ _ _ _ h3 hs).mono ?_
        rintro e w1 ⟨a1, k1, rfl, i1, b1⟩
        go_wp2_with fail
        refine (zz_max a1 k1 V w1 h3 i1).mono ?_
        rintro e w2 ⟨rfl, b2⟩
        have HF := Lib.hid (b1.trans (b2.mono b1.size))
        clear hs i1 b1 b2
        rw [hk]
        go_wp2
        go_ret
        exact ⟨rfl, HF.out⟩
      · have hne : ¬ V = [] := fun e => h0 (by rw [e]; rfl)
        have hk : mmK V = 1 := by unfold mmK; rw [if_neg hne]
        have hv : mmV false V V = geti V (mmTo false V V.length) := by unfold mmV; rw [if_neg hne]
        have hj := mmTo_lt false V V.length (by omega)
        have hg := last_greatest V V.length (by omega)
        obtain ⟨v, hvv⟩ : ∃ v, v = geti V (mmTo false V V.length) := ⟨_, rfl⟩
        rw [← hvv] at hv hg
        have HA := Lib.hid hg.1
        have HE := Lib.hid (foundTo_hit V v _ hvv.symm V.length hj)
        have hzb : ((V.length : Int) == 0) = false := by simp; omega
        clear hg hj hvv hne
        go_enter Tryz.func11, Tryz.ntmps11
        go_wp2_with (go_at_call 46; refine (bytesMax _ _ _ ha _).mono ?_; rintro e w' ⟨rfl, rfl⟩)
        go_wp2_with fail
        refine (clone_any _ _ _ _ h3 hs).mono ?_
        rintro e w1 ⟨a1, k1, rfl, i1, b1⟩
        go_wp2_with fail
        refine (zz_max a1 k1 V w1 h3 i1).mono ?_
        rintro e w2 ⟨rfl, b2⟩
        have I1 := Lib.hid (i1.below b2)
        have HF := Lib.hid (b1.trans (b2.mono b1.size))
        clear hs i1 b1 b2
        rw [hk, hv]
        clear hk hv
        go_wp2
        go_loopw [5, 6] (fun f i wr => ∃ k : Nat, k ≤ V.length ∧ f = .bool (foundTo V v k) ∧ i = .int .i64 k ∧ Hid (∃ nq, wr = w2.drewN nq)) (fun _ i _ => V.length - (intOf i).toNat)
        case atStart => exact ⟨0, Nat.zero_le _, rfl, rfl, Lib.hid ⟨0, rfl⟩⟩
        case round =>
          obtain ⟨k, hk, rfl, rfl, Hw⟩ := hrel
          by_cases hlt : k < V.length
          · obtain ⟨b, off, hao, hc⟩ := I1.out.at' k hlt
            subst hao
            have hcw : wr.cell? ⟨b, off + k, none⟩ = some (.int .i64 (geti V k)) := by obtain ⟨nq, rfl⟩ := Hw.out; exact hc
            clear hc
            have hle : ¬ v < geti V k := by have := HA.out k hlt; omega
            cases hz : (geti V k == v) with
            | true =>
              have HS := Lib.hid (foundTo_yes V v k hz)
              go_wp2
              go_roundw
              case rel => exact ⟨k + 1, by omega, by rw [HS.out], by go_num, by first | exact Hw | exact Lib.hid (drew_more Hw.out _)⟩
              case measure => simp [intOf]; omega
            | false =>
              have HS := Lib.hid (foundTo_no V v k hz)
              go_wp2
              go_roundw
              case rel => exact ⟨k + 1, by omega, by rw [HS.out], by go_num, by first | exact Hw | exact Lib.hid (drew_more Hw.out _)⟩
              case measure => simp [intOf]; omega
          · obtain rfl : k = V.length := by omega
            rw [HE.out]
            go_wp2
            go_ret
            refine ⟨rfl, ?_⟩
            obtain ⟨nq, rfl⟩ := Hw.out
            exact HF.out.trans ⟨rfl, rfl, rfl, Nat.le_refl _, fun _ _ => rfl⟩
    · go_enter Tryz.func11, Tryz.ntmps11
      go_wp2_with (go_at_call 46; refine (bytesMax _ _ _ ha _).mono ?_; rintro e w' ⟨rfl, rfl⟩)
      all_goals (go_ret; exact ⟨rfl, Below.refl _ _⟩)
  · go_enter Tryz.func11, Tryz.ntmps11
    go_wp2_with (go_at_call 46; refine (bytesMax _ _ _ ha _).mono ?_; rintro e w' ⟨rfl, rfl⟩)
    go_ret
    exact ⟨rfl, Below.refl _ _⟩
end Go.Proofs.YtlhkbdeceogjgaaGreatDoor
