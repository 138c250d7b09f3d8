/- The law on two arrays of ints: jq's < is lexicographic order. Conditions: none. -/
import Derived.Test.YtkdfilghfaljpaaGreatDoorInts
import Derived.Test.YtkdfilghfaljpaaGreatDoorOps
namespace Go.Proofs.YtkdfilghfaljpaaGreatDoor
open Go.RowKit Go
theorem cmpL_lt_step (xs ys : List Int) (k : Nat) (hx : k < xs.length) (hy : k < ys.length) (h : geti xs k = geti ys k) :
    cmpL (xs.drop k) (ys.drop k) = cmpL (xs.drop (k + 1)) (ys.drop (k + 1)) := by
  rw [cmpL_step xs ys k hx hy, h]; simp [cmpI]
theorem cmpL_lt_ne (xs ys : List Int) (k : Nat) (hx : k < xs.length) (hy : k < ys.length) (h : geti xs k ≠ geti ys k) :
    decide (cmpL (xs.drop k) (ys.drop k) < 0) = decide (geti xs k < geti ys k) := by
  rw [cmpL_step xs ys k hx hy, cmpI_ne h]
  unfold cmpI
  by_cases h1 : geti xs k < geti ys k
  · simp [h1]
  · have h2 : geti ys k < geti xs k := by omega
    simp [h1, h2]
theorem cmpI_lt (a b : Int) : decide (cmpI a b < 0) = decide (a < b) := by unfold cmpI; split <;> (try split) <;> simp <;> omega
theorem retD_of_arr (xs ys : List Int) (ao bo : Option Addr) (c1 c2 : Nat) (w : World) (hn : xs.length ≤ 1048576) (hm : ys.length ≤ 1048576) (hs : AnysArg w ao xs) (ht : AnysArg w bo ys) :
    Calls Tryz.prog 28 #[.iface 34 (.slice ao xs.length c1), .iface 34 (.slice bo ys.length c2)] w (RetD (.int .i64 (cmpL xs ys)) w) :=
  compare_arr ao bo _ _ c1 c2 xs ys w rfl rfl hn hm hs.at' ht.at'
set_option maxRecDepth 100000 in
set_option maxHeartbeats 800000 in
theorem lexLess_any (ao bo : Option Addr) (c1 c2 : Nat) (xs ys : List Int) (w : World) (hn : xs.length ≤ 1048576) (hm : ys.length ≤ 1048576) (hs : IntsArg w ao c1 xs) (ht : IntsArg w bo c2 ys) :
    Calls Tryz.prog 23 #[.slice ao xs.length c1, .slice bo ys.length c2] w (RetD (.bool (decide (cmpL xs ys < 0))) w) := by
  have Hs := Lib.hid hs.at'
  have Ht := Lib.hid ht.at'
  clear hs ht
  generalize hx : xs.length = n at *
  generalize hy : ys.length = m at *
  have Hx := Lib.hid hx
  have Hy := Lib.hid hy
  clear hx hy
  go_enter Tryz.func23, Tryz.ntmps23
  go_wp2
  go_loopw [5] (fun i wr => ∃ k : Nat, k ≤ n ∧ k ≤ m ∧ i = .int .i64 k ∧ Hid (cmpL xs ys = cmpL (xs.drop k) (ys.drop k)) ∧ Hid (∃ nq, wr = w.drewN nq)) (fun i _ => n - (intOf i).toNat)
  case atStart => exact ⟨0, Nat.zero_le _, Nat.zero_le _, rfl, rfl, ⟨0, rfl⟩⟩
  case round =>
    obtain ⟨k, hk1, hk2, rfl, Hc, Hw⟩ := hrel
    by_cases hlt1 : k < n
    · by_cases hlt2 : k < m
      · obtain ⟨b, off, hao, hc⟩ := Hs.out k (by first | exact hlt1 | (rw [Hx.out]; exact hlt1))
        subst hao
        obtain ⟨b', off', hbo, hc'⟩ := Ht.out k (by first | exact hlt2 | (rw [Hy.out]; exact hlt2))
        subst hbo
        have hcw : wr.cell? ⟨b, off + k, none⟩ = some (.int .i64 (geti xs k)) := by obtain ⟨nq, rfl⟩ := Hw.out; exact hc
        have hcw' : wr.cell? ⟨b', off' + k, none⟩ = some (.int .i64 (geti ys k)) := by obtain ⟨nq, rfl⟩ := Hw.out; exact hc'
        clear hc hc'
        by_cases hz : geti xs k = geti ys k
        · have HS := Lib.hid (cmpL_lt_step xs ys k (by rw [Hx.out]; exact hlt1) (by rw [Hy.out]; exact hlt2) hz)
          have hzb : (geti xs k == geti ys k) = true := by rw [hz]; simp
          clear hz
          go_wp2
          go_quiet (fail)
          go_wp2
          go_roundw
          case rel => exact ⟨k + 1, by omega, by omega, by go_num, Lib.hid (by rw [Hc.out, HS.out]), Lib.hid (drew_more Hw.out _)⟩
          case measure => simp [intOf]; omega
        · have HS := Lib.hid (cmpL_lt_ne xs ys k (by rw [Hx.out]; exact hlt1) (by rw [Hy.out]; exact hlt2) hz)
          have hzb : (geti xs k == geti ys k) = false := by simp [hz]
          clear hz
          go_wp2
          go_quiet (fail)
          go_wp2
          go_quiet (fail)
          go_wp2
          go_ret
          exact ⟨ret_bool (by rw [Hc.out, HS.out]), drew_more (drew_more Hw.out _) _⟩
      · obtain rfl : k = m := by omega
        go_wp2
        go_quiet (fail)
        go_wp2
        go_ret
        exact ⟨ret_bool (by rw [Hc.out, cmpL_end xs ys _ (by rw [Hx.out, Hy.out]; simp) (by rw [Hx.out]; omega) (by rw [Hy.out]; omega), Hx.out, Hy.out, cmpI_lt]; simp), drew_more Hw.out _⟩
    · obtain rfl : k = n := by omega
      go_wp2
      go_quiet (fail)
      go_wp2
      go_ret
      exact ⟨ret_bool (by rw [Hc.out, cmpL_end xs ys _ (by rw [Hx.out, Hy.out]; simp) (by rw [Hx.out]; omega) (by rw [Hy.out]; omega), Hx.out, Hy.out, cmpI_lt]; simp), drew_more Hw.out _⟩
theorem ltIntSlice (ao bo : Option Addr) (c1 c2 : Nat) (xs ys : List Int) (w : World) (hn : xs.length ≤ 1048576) (hm : ys.length ≤ 1048576) (hs : IntsArg w ao c1 xs) (ht : IntsArg w bo c2 ys) :
    Calls Tryz.prog 22 #[.slice ao xs.length c1, .slice bo ys.length c2] w fun e w' => e = .returned (.bool (decide (cmpL xs ys < 0))) ∧ Below w.heap.size w w' := by
  go_enter Tryz.func22, Tryz.ntmps22
  go_wp2_with fail
  refine (toAny_any _ _ _ _ hn hs).mono ?_
  rintro e w1 ⟨a1, k1, rfl, h1, b1⟩
  go_wp2_with fail
  refine (toAny_any _ _ _ _ hm (ht.below b1)).mono ?_
  rintro e w2 ⟨a2, k2, rfl, h2, b2⟩
  have h1' := h1.below b2
  have HC := Lib.hid (retD_of_arr xs ys a1 a2 k1 k2 w2 hn hm h1' h2)
  clear hs ht h1 h2 h1'
  go_wp2_with (go_at_call 26; refine (funcOpLt_of _ _ _ _ HC.out).mono ?_; rintro e w' ⟨rfl, nq, rfl⟩)
  go_ret
  exact ⟨rfl, (b1.trans (b2.mono b1.size)).trans ⟨rfl, rfl, rfl, Nat.le_refl _, fun _ _ => rfl⟩⟩
set_option maxRecDepth 100000 in
theorem bytesLt (ao bo : Option Addr) (c1 c2 n m : Nat) (ha : n ≤ 9223372036854775807) (hb : m ≤ 9223372036854775807) (w : World) : Calls Tryz.prog 20 #[.slice ao n c1, .slice bo m c2] w (Ret (.bool (decide (n + m ≤ 1048576))) w) := by
  have hsum : n ≤ 1048576 → m ≤ 1048576 → IntKind.i64.wrap ((n : Int) + m) = n + m := fun h1 h2 => IntWalk.i64_in _ (by omega)
  by_cases h1 : n ≤ 1048576
  · by_cases h2 : m ≤ 1048576
    · by_cases h3 : n + m ≤ 1048576
      · go_enter Tryz.func20, Tryz.ntmps20
        go_wp2
        go_ret
        exact ⟨ret_bool (by simp [h3]), rfl⟩
      · have h3' : 1048576 < n + m := by omega
        go_enter Tryz.func20, Tryz.ntmps20
        go_wp2
        go_ret
        exact ⟨ret_bool (by simp [h3]), rfl⟩
    · have h2' : 1048576 < m := by omega
      go_enter Tryz.func20, Tryz.ntmps20
      go_wp2
      go_ret
      exact ⟨ret_bool (by simp; omega), rfl⟩
  · have h1' : 1048576 < n := by omega
    go_enter Tryz.func20, Tryz.ntmps20
    go_wp2
    go_ret
    exact ⟨ret_bool (by simp; omega), rfl⟩
set_option maxRecDepth 100000 in
set_option maxHeartbeats 800000 in
theorem lawLtArrays (ao bo : Option Addr) (c1 c2 : Nat) (xs ys : List Int) (w : World) (ha : xs.length ≤ 9223372036854775807) (hb : ys.length ≤ 9223372036854775807) (hs : IntsArg w ao c1 xs) (ht : IntsArg w bo c2 ys) :
    Calls Tryz.prog 9 #[.slice ao xs.length c1, .slice bo ys.length c2] w fun e w' => e = .returned (.bool true) ∧ Below w.heap.size w w' := by
  have Fin := fun (wx : World) (h : Below w.heap.size w wx) => (⟨rfl, h⟩ : Ending.returned (.bool true) = .returned (.bool true) ∧ Below w.heap.size w wx)
  by_cases h3 : xs.length + ys.length ≤ 1048576
  · by_cases h4 : xs.length ≤ 65536 ∧ ys.length ≤ 65536
    · obtain ⟨h4, h5⟩ := h4
      go_enter Tryz.func9, Tryz.ntmps9
      go_wp2_with (go_at_call 20; refine (bytesLt _ _ _ _ _ _ ha hb _).mono ?_; rintro e w' ⟨rfl, rfl⟩)
      go_wp2_with fail
      refine (clone_any _ _ _ _ (by omega) hs).mono ?_
      rintro e w1 ⟨a1, k1, rfl, i1, b1⟩
      go_wp2_with fail
      refine (clone_any _ _ _ _ (by omega) (ht.below b1)).mono ?_
      rintro e w2 ⟨a2, k2, rfl, i2, b2⟩
      have i1' := i1.below b2
      go_wp2_with fail
      refine (ltIntSlice _ _ _ _ _ _ _ (by omega) (by omega) i1' i2).mono ?_
      rintro e w3 ⟨rfl, b3⟩
      go_wp2_with fail
      refine (lexLess_any _ _ _ _ _ _ _ (by omega) (by omega) (i1'.below b3) (i2.below b3)).mono ?_
      rintro e w4 ⟨rfl, nq, rfl⟩
      have fin := (((b1.trans (b2.mono b1.size)).trans (b3.mono (Nat.le_trans b1.size b2.size))).trans (⟨rfl, rfl, rfl, Nat.le_refl _, fun _ _ => rfl⟩ : Below w.heap.size w3 (w3.drewN nq)))
      have HF := Lib.hid fin
      clear fin hs ht i1 i2 i1' b1 b2 b3 Fin
      go_wp2
      go_ret
      exact ⟨ret_bool (by simp), HF.out⟩
    · go_enter Tryz.func9, Tryz.ntmps9
      go_wp2_with (go_at_call 20; refine (bytesLt _ _ _ _ _ _ ha hb _).mono ?_; rintro e w' ⟨rfl, rfl⟩)
      all_goals (go_ret; exact ⟨rfl, Below.refl _ _⟩)
  · have h3' : 1048576 < xs.length + ys.length := by omega
    go_enter Tryz.func9, Tryz.ntmps9
    go_wp2_with (go_at_call 20; refine (bytesLt _ _ _ _ _ _ ha hb _).mono ?_; rintro e w' ⟨rfl, rfl⟩)
    go_ret
    exact ⟨rfl, Below.refl _ _⟩
end Go.Proofs.YtkdfilghfaljpaaGreatDoor
