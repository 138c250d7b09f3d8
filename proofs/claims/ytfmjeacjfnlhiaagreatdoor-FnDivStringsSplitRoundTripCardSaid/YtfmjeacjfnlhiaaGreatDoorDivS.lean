/- Strings divided: that the pieces, joined, are the whole: the law walked. Conditions: the decoder's tables lie as the row lists them. -/
import Derived.Test.YtfmjeacjfnlhiaaGreatDoorRowS
namespace Go.Proofs.YtfmjeacjfnlhiaaGreatDoor
open Go.RowKit Go
def LawPost (w : World) (e : Ending) (w' : World) : Prop := e = .returned (.bool true) ∧ Below w.heap.size w w'
set_option maxRecDepth 100000 in
theorem bytesD_yes (l r : ByteArray) (h1 : l.size + r.size ≤ 1048576) (w : World) : Calls Tryz.prog 7 #[.string l, .string r] w (Ret (.bool true) w) := by
  have i1 : l.size ≤ 1048576 := by omega
  have i2 : r.size ≤ 1048576 := by omega
  go_enter Tryz.func7, Tryz.ntmps7
  go_wp2
  go_ret
  exact ⟨rfl, rfl⟩
set_option maxRecDepth 100000 in
theorem bytesD_no (l r : ByteArray) (h1 : 1048576 < l.size + r.size) (h2 : l.size ≤ 9223372036854775807) (h3 : r.size ≤ 9223372036854775807) (w : World) : Calls Tryz.prog 7 #[.string l, .string r] w (Ret (.bool false) w) := by
  by_cases i1 : l.size ≤ 1048576
  · by_cases i2 : r.size ≤ 1048576
    · go_enter Tryz.func7, Tryz.ntmps7
      go_wp2
      go_ret
      exact ⟨rfl, rfl⟩
    · have i3 : 1048576 < r.size := by omega
      go_enter Tryz.func7, Tryz.ntmps7
      go_wp2
      go_ret
      exact ⟨rfl, rfl⟩
  · have i3 : 1048576 < l.size := by omega
    go_enter Tryz.func7, Tryz.ntmps7
    go_wp2
    go_ret
    exact ⟨rfl, rfl⟩
theorem empty_yes {r : ByteArray} (hr : r.size = 0) : r.toList.isEmpty = true := by
  rw [Lib.toList_data]
  have : r.data.toList = [] := List.eq_nil_of_length_eq_zero (by rw [← Lib.size_eq]; exact hr)
  rw [this]; rfl
theorem empty_no {r : ByteArray} (hr : r.size ≠ 0) : r.toList.isEmpty = false := by
  rw [Lib.toList_data]
  cases h : r.data.toList with
  | nil => exact absurd (by rw [Lib.size_eq, h]; rfl) hr
  | cons a b => rfl
/-- Where the law stands before piece k. -/
def posAt (L : List (Nat × Nat)) (k : Nat) : Nat := if k = 0 then 0 else (gt L (k - 1)).2
theorem occ_self (l : ByteArray) (q : Nat × Nat) (h1 : q.1 ≤ q.2) (h2 : q.2 ≤ l.size) : occ l (pc l q) q.1 = true := by
  have hs := pc_size l q h1 h2
  refine occ_yes l (pc l q) q.1 (by omega) fun j h3 h4 => ?_
  rw [pc_get l q h1 h2 j h4]
set_option maxRecDepth 100000 in
set_option maxHeartbeats 60000000 in
theorem lawDivS (l r : ByteArray) (hl : l.size ≤ 9223372036854775807) (hr : r.size ≤ 9223372036854775807) (w : World) (hU : U8 w.heap.size w) : Calls Tryz.prog 4 #[.string l, .string r] w (LawPost w) := by
  by_cases hy : l.size + r.size ≤ 1048576
  · have HY := Lib.hid (bytesD_yes l r hy)
    by_cases hf : l.size ≤ 65536 ∧ r.size ≤ 4096
    · obtain ⟨f1, f2⟩ := hf
      have HF := Lib.hid (fits_yes l r f1 f2)
      have HZ := Lib.hid (zz_divS l r f1 f2 w hU)
      clear hU hl hr hy
      by_cases hl0 : l.size = 0
      · have hle := empty_yes hl0
        have HL := Lib.hid hl0
        clear hl0
        go_enter Tryz.func4, Tryz.ntmps4
        go_wp2_with (first | (go_at_call 7; refine (HY.out _).mono ?_; rintro e w' ⟨rfl, rfl⟩) | (go_at_call 8; refine (HF.out _).mono ?_; rintro e w' ⟨rfl, rfl⟩))
        try go_at_call 9
        refine HZ.out.mono ?_
        rintro e w1 ⟨ps, bo, rfl, hq, hs, hb⟩
        have HB := Lib.hid hb
        have hn : ps.length = 0 := by
          rcases hq.2 with ⟨_, h⟩ | ⟨h, _⟩
          · rw [h]; rfl
          · exact absurd HL.out h
        clear hq hs hb
        rw [hn]
        go_wp2
        go_ret
        exact ⟨rfl, HB.out.alloc HB.out.size _⟩
      · have hle := empty_no hl0
        have HL := Lib.hid hl0
        clear hl0
        go_enter Tryz.func4, Tryz.ntmps4
        go_wp2_with (first | (go_at_call 7; refine (HY.out _).mono ?_; rintro e w' ⟨rfl, rfl⟩) | (go_at_call 8; refine (HF.out _).mono ?_; rintro e w' ⟨rfl, rfl⟩))
        try go_at_call 9
        refine HZ.out.mono ?_
        rintro e w1 ⟨ps, bo, rfl, hq, hs, hb⟩
        have HB := Lib.hid hb
        have HS := Lib.hid hs
        obtain ⟨hpl, hw⟩ := hq
        have hw2 : Whole l r ps := by
          rcases hw with ⟨h, _⟩ | ⟨_, h⟩
          · exact absurd h HL.out
          · exact h
        obtain ⟨L, hA⟩ := whole_at hw2
        have HA := Lib.hid hA
        have hpos := hA.pos
        clear hw hw2 hs hb hA HZ HF HY
        generalize hn : ps.length = n at *
        have HN := Lib.hid hn
        clear hn
        have hn0 : ((n : Int) == 0) = false := by rw [beq_eq_false_iff_ne]; omega
        go_wp2
        go_loopw [6, 7] (fun ps' ix wr => ∃ k a : Nat, k ≤ n ∧ ix = .int .i64 (k : Int) ∧ ps' = .int .i64 (a : Int) ∧ Hid (a = posAt L k) ∧ Hid (∃ nq, wr = (w1.alloc (.cells #[.int .i64 6, .int .i64 0, .float .f64 0, .string ⟨#[]⟩, .slice (some ⟨bo, 0, none⟩) n n, .int .i64 0, .bool false, .int .u64 0] 26)).drewN nq)) (fun _ ix _ => n - (intOf ix).toNat)
        case atStart => exact ⟨0, 0, Nat.zero_le _, rfl, rfl, Lib.hid rfl, Lib.hid ⟨0, rfl⟩⟩
        case round =>
          obtain ⟨k, a, hk, rfl, rfl, HP, HW⟩ := hrel
          by_cases hlt : k < n
          · obtain ⟨nq, rfl⟩ := HW.out
            clear HW
            have hkp : k < ps.length := by rw [HN.out]; exact hlt
            have hc0 := HS.out k hkp
            have hbo : bo < w1.heap.size := World.block_lt_of_cell? _ _ hc0
            obtain ⟨g1, g2, g3, g4⟩ := HA.out.good k (by rw [HN.out]; exact hlt)
            have hgs : gs ps k = pc l (gt L k) := by
              rw [← HA.out.piece k hkp]
              simp [gs, List.getD_eq_getElem?_getD, List.getElem?_eq_getElem hkp]
            have hsz := pc_size l (gt L k) g1 g2
            have hoc := occ_self l (gt L k) g1 g2
            rw [← hgs] at hsz hoc g3
            obtain ⟨b, hb⟩ : ∃ b, b = (gt L k).1 := ⟨_, rfl⟩
            obtain ⟨c, hcc⟩ : ∃ c, c = (gt L k).2 := ⟨_, rfl⟩
            rw [← hb] at g1 g3 g4 hsz hoc
            rw [← hcc] at g1 g2 g3 g4 hsz
            have HC := Lib.hid (show c = posAt L (k + 1) from by simp [posAt, hcc])
            generalize gs ps k = p at hc0 hsz hoc g3
            have H2 := Lib.hid (show ∀ w, Calls Tryz.prog 10 #[.string l, .int .i64 (b : Int), .string p] w (RetD (.bool true) w) from fun w => by
              have := hasAt_any l p b (by omega) (by omega) w
              rwa [hoc] at this)
            have hsum2 : IntKind.i64.wrap ((b : Int) + p.size) = (c : Int) := by rw [IntWalk.i64_in _ (by omega)]; omega
            have HPs := Lib.hid hsz
            by_cases hk0 : k = 0
            · have hb0 : b = 0 := by rw [hb, ← HA.out.zero, hk0]
              have ha0 : a = 0 := by rw [HP.out, hk0]; rfl
              subst hk0 ha0
              rw [hb0] at H2
              clear hsum2
              have hsum2 : IntKind.i64.wrap (p.size : Int) = (c : Int) := by rw [IntWalk.i64_in _ (by omega)]; omega
              clear hgs hb hcc hoc
              by_cases hr0 : r.size = 0
              · have hre := empty_yes hr0
                have hpe := empty_no (r := p) (by have := g4 hr0; omega)
                clear g3 g4 hr0 hsz
                as_aux_lemma =>
                go_wp2_with fail
                try go_at_call 10
                refine (H2.out _).mono ?_
                rintro e w' ⟨rfl, m2, rfl⟩
                go_wp2
                go_roundw
                case rel => exact ⟨1, c, by omega, by go_num, rfl, HC, Lib.hid ⟨_, rfl⟩⟩
                case measure => simp [intOf]; omega
              · have hre := empty_no hr0
                have H3 := Lib.hid (contains_no p r (by omega) (by omega) (fun j hj => g3 hr0 j (by omega)))
                clear g3 g4 hr0 hsz
                as_aux_lemma =>
                go_wp2_with fail
                try go_at_call 10
                refine (H2.out _).mono ?_
                rintro e w' ⟨rfl, m2, rfl⟩
                go_wp2_with fail
                try go_at_call 11
                refine (H3.out _).mono ?_
                rintro e w' ⟨rfl, m3, rfl⟩
                go_wp2
                go_roundw
                case rel => exact ⟨1, c, by omega, by go_num, rfl, HC, Lib.hid ⟨_, rfl⟩⟩
                case measure => simp [intOf]; omega
            · have hk1 : (0 : Int) < (k : Int) := by omega
              obtain ⟨x1, x2, x3⟩ := HA.out.next (k - 1) (by rw [HN.out]; omega)
              have ha : a = (gt L (k - 1)).2 := by rw [HP.out]; simp [posAt, hk0]
              rw [← ha, show k - 1 + 1 = k from by omega, ← hb] at x1
              rw [← ha] at x2 x3
              have H1 := Lib.hid (show ∀ w, Calls Tryz.prog 10 #[.string l, .int .i64 (a : Int), .string r] w (RetD (.bool true) w) from fun w => by
                have := hasAt_any l r a (by omega) x2 w
                rwa [x3] at this)
              have hsum1 : IntKind.i64.wrap ((a : Int) + r.size) = (b : Int) := by rw [IntWalk.i64_in _ (by omega)]; omega
              clear hgs hb hcc hoc x3 ha hk0 x1
              by_cases hr0 : r.size = 0
              · have hre := empty_yes hr0
                have hpe := empty_no (r := p) (by have := g4 hr0; omega)
                clear g3 g4 hr0 hsz
                as_aux_lemma =>
                go_wp2_with fail
                try go_at_call 10
                refine (H1.out _).mono ?_
                rintro e w' ⟨rfl, m1, rfl⟩
                go_wp2_with fail
                try go_at_call 10
                refine (H2.out _).mono ?_
                rintro e w' ⟨rfl, m2, rfl⟩
                go_wp2
                go_roundw
                case rel => exact ⟨k + 1, c, by omega, by go_num, rfl, HC, Lib.hid ⟨_, rfl⟩⟩
                case measure => simp [intOf]; omega
              · have hre := empty_no hr0
                have H3 := Lib.hid (contains_no p r (by omega) (by omega) (fun j hj => g3 hr0 j (by omega)))
                clear g3 g4 hr0 hsz
                as_aux_lemma =>
                go_wp2_with fail
                try go_at_call 10
                refine (H1.out _).mono ?_
                rintro e w' ⟨rfl, m1, rfl⟩
                go_wp2_with fail
                try go_at_call 10
                refine (H2.out _).mono ?_
                rintro e w' ⟨rfl, m2, rfl⟩
                go_wp2_with fail
                try go_at_call 11
                refine (H3.out _).mono ?_
                rintro e w' ⟨rfl, m3, rfl⟩
                go_wp2
                go_roundw
                case rel => exact ⟨k + 1, c, by omega, by go_num, rfl, HC, Lib.hid ⟨_, rfl⟩⟩
                case measure => simp [intOf]; omega
          · have hkn : k = n := by omega
            have haL : a = l.size := by rw [HP.out, hkn]; unfold posAt; rw [if_neg (by omega)]; have := HA.out.fin; rw [HN.out] at this; exact this
            obtain ⟨nq, rfl⟩ := HW.out
            clear HW HP
            subst haL
            clear hkn
            go_wp2
            go_ret
            exact ⟨ret_bool (by simp), (HB.out.alloc HB.out.size _).trans ⟨rfl, rfl, rfl, Nat.le_refl _, fun _ _ => rfl⟩⟩
    · have HF := Lib.hid (fits_no l r hf)
      clear hU
      go_enter Tryz.func4, Tryz.ntmps4
      go_wp2_with (first | (go_at_call 7; refine (HY.out _).mono ?_; rintro e w' ⟨rfl, rfl⟩) | (go_at_call 8; refine (HF.out _).mono ?_; rintro e w' ⟨rfl, rfl⟩))
      go_ret
      exact ⟨rfl, Below.refl _ _⟩
  · have HY := Lib.hid (bytesD_no l r (by omega) hl hr)
    clear hU
    go_enter Tryz.func4, Tryz.ntmps4
    go_wp2_with (go_at_call 7; refine (HY.out _).mono ?_; rintro e w' ⟨rfl, rfl⟩)
    go_ret
    exact ⟨rfl, Below.refl _ _⟩
end Go.Proofs.YtfmjeacjfnlhiaaGreatDoor
