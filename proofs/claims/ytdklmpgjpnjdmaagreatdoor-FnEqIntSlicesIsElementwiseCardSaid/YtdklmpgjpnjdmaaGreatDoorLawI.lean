/- The laws on two slices of ints, walked. Conditions: none. -/
import Derived.Test.YtdklmpgjpnjdmaaGreatDoorInts
import Derived.Test.YtdklmpgjpnjdmaaGreatDoorOps
namespace Go.Proofs.YtdklmpgjpnjdmaaGreatDoor
open Go.RowKit Go
set_option maxRecDepth 100000 in
theorem bytesEqI (ao bo : Option Addr) (c1 c2 n m : Nat) (ha : n ≤ 9223372036854775807) (hb : m ≤ 9223372036854775807) (w : World) : Calls Tryz.prog 14 #[.slice ao n c1, .slice bo m c2] w (Ret (.bool (decide (n + m ≤ 1048576))) w) := by
  have hsum : n ≤ 1048576 → m ≤ 1048576 → IntKind.i64.wrap ((n : Int) + m) = n + m := fun h1 h2 => IntWalk.i64_in _ (by omega)
  by_cases h1 : n ≤ 1048576
  · by_cases h2 : m ≤ 1048576
    · by_cases h3 : n + m ≤ 1048576
      · go_enter Tryz.func14, Tryz.ntmps14
        go_wp2
        go_ret
        exact ⟨ret_bool (by simp [h3]), rfl⟩
      · have h3' : 1048576 < n + m := by omega
        go_enter Tryz.func14, Tryz.ntmps14
        go_wp2
        go_ret
        exact ⟨ret_bool (by simp [h3]), rfl⟩
    · have h2' : 1048576 < m := by omega
      go_enter Tryz.func14, Tryz.ntmps14
      go_wp2
      go_ret
      exact ⟨ret_bool (by simp; omega), rfl⟩
  · have h1' : 1048576 < n := by omega
    go_enter Tryz.func14, Tryz.ntmps14
    go_wp2
    go_ret
    exact ⟨ret_bool (by simp; omega), rfl⟩
set_option maxRecDepth 100000 in
theorem bytesNeI (ao bo : Option Addr) (c1 c2 n m : Nat) (ha : n ≤ 9223372036854775807) (hb : m ≤ 9223372036854775807) (w : World) : Calls Tryz.prog 18 #[.slice ao n c1, .slice bo m c2] w (Ret (.bool (decide (n + m ≤ 1048576))) w) := by
  have hsum : n ≤ 1048576 → m ≤ 1048576 → IntKind.i64.wrap ((n : Int) + m) = n + m := fun h1 h2 => IntWalk.i64_in _ (by omega)
  by_cases h1 : n ≤ 1048576
  · by_cases h2 : m ≤ 1048576
    · by_cases h3 : n + m ≤ 1048576
      · go_enter Tryz.func18, Tryz.ntmps18
        go_wp2
        go_ret
        exact ⟨ret_bool (by simp [h3]), rfl⟩
      · have h3' : 1048576 < n + m := by omega
        go_enter Tryz.func18, Tryz.ntmps18
        go_wp2
        go_ret
        exact ⟨ret_bool (by simp [h3]), rfl⟩
    · have h2' : 1048576 < m := by omega
      go_enter Tryz.func18, Tryz.ntmps18
      go_wp2
      go_ret
      exact ⟨ret_bool (by simp; omega), rfl⟩
  · have h1' : 1048576 < n := by omega
    go_enter Tryz.func18, Tryz.ntmps18
    go_wp2
    go_ret
    exact ⟨ret_bool (by simp; omega), rfl⟩
set_option maxRecDepth 100000 in
theorem bytesGtI (ao bo : Option Addr) (c1 c2 n m : Nat) (ha : n ≤ 9223372036854775807) (hb : m ≤ 9223372036854775807) (w : World) : Calls Tryz.prog 20 #[.slice ao n c1, .slice bo m c2] w (Ret (.bool (decide (n + m ≤ 1048576))) w) := by
  have hsum : n ≤ 1048576 → m ≤ 1048576 → IntKind.i64.wrap ((n : Int) + m) = n + m := fun h1 h2 => IntWalk.i64_in _ (by omega)
  by_cases h1 : n ≤ 1048576
  · by_cases h2 : m ≤ 1048576
    · by_cases h3 : n + m ≤ 1048576
      · go_enter Tryz.func20, Tryz.ntmps20
        go_wp2
        go_ret
        exact ⟨ret_bool (by simp [h3]), rfl⟩
      · have h3' : 1048576 < n + m := by omega
        go_enter Tryz.func20, Tryz.ntmps20
        go_wp2
        go_ret
        exact ⟨ret_bool (by simp [h3]), rfl⟩
    · have h2' : 1048576 < m := by omega
      go_enter Tryz.func20, Tryz.ntmps20
      go_wp2
      go_ret
      exact ⟨ret_bool (by simp; omega), rfl⟩
  · have h1' : 1048576 < n := by omega
    go_enter Tryz.func20, Tryz.ntmps20
    go_wp2
    go_ret
    exact ⟨ret_bool (by simp; omega), rfl⟩
theorem retD_of_arr (xs ys : List Int) (ao bo : Option Addr) (c1 c2 : Nat) (w : World) (hn : xs.length ≤ 1048576) (hm : ys.length ≤ 1048576) (hs : AnysArg w ao xs) (ht : AnysArg w bo ys) :
    Calls Tryz.prog 35 #[.iface 41 (.slice ao xs.length c1), .iface 41 (.slice bo ys.length c2)] w (RetD (.int .i64 (cmpL xs ys)) w) :=
  compare_arr ao bo _ _ c1 c2 xs ys w rfl rfl hn hm hs.at' ht.at'
theorem zz_eqIntSlices (ao bo : Option Addr) (c1 c2 : Nat) (xs ys : List Int) (w : World) (hn : xs.length ≤ 1048576) (hm : ys.length ≤ 1048576) (hs : IntsArg w ao c1 xs) (ht : IntsArg w bo c2 ys) :
    Calls Tryz.prog 16 #[.slice ao xs.length c1, .slice bo ys.length c2] w fun e w' => e = .returned (.tuple #[.bool (cmpL xs ys == 0), .bool true]) ∧ Below w.heap.size w w' := by
  go_enter Tryz.func16, Tryz.ntmps16
  go_wp2_with fail
  refine (toAny_any _ _ _ _ hn hs).mono ?_
  rintro e w1 ⟨a1, k1, rfl, h1, b1⟩
  go_wp2_with fail
  refine (toAny_any _ _ _ _ hm (ht.below b1)).mono ?_
  rintro e w2 ⟨a2, k2, rfl, h2, b2⟩
  have h1' := h1.below b2
  have HC := Lib.hid (retD_of_arr xs ys a1 a2 k1 k2 w2 hn hm h1' h2)
  clear hs ht h1 h2 h1'
  go_wp2_with (go_at_call 31; refine (funcOpEq_of _ _ _ _ HC.out).mono ?_; rintro e w' ⟨rfl, nq, rfl⟩)
  go_ret2
  exact ⟨rfl, (b1.trans (b2.mono b1.size)).trans ⟨rfl, rfl, rfl, Nat.le_refl _, fun _ _ => rfl⟩⟩
theorem zz_neIntSlices (ao bo : Option Addr) (c1 c2 : Nat) (xs ys : List Int) (w : World) (hn : xs.length ≤ 1048576) (hm : ys.length ≤ 1048576) (hs : IntsArg w ao c1 xs) (ht : IntsArg w bo c2 ys) :
    Calls Tryz.prog 19 #[.slice ao xs.length c1, .slice bo ys.length c2] w fun e w' => e = .returned (.tuple #[.bool (cmpL xs ys != 0), .bool true]) ∧ Below w.heap.size w w' := by
  go_enter Tryz.func19, Tryz.ntmps19
  go_wp2_with fail
  refine (toAny_any _ _ _ _ hn hs).mono ?_
  rintro e w1 ⟨a1, k1, rfl, h1, b1⟩
  go_wp2_with fail
  refine (toAny_any _ _ _ _ hm (ht.below b1)).mono ?_
  rintro e w2 ⟨a2, k2, rfl, h2, b2⟩
  have h1' := h1.below b2
  have HC := Lib.hid (retD_of_arr xs ys a1 a2 k1 k2 w2 hn hm h1' h2)
  clear hs ht h1 h2 h1'
  go_wp2_with (go_at_call 32; refine (funcOpNe_of _ _ _ _ HC.out).mono ?_; rintro e w' ⟨rfl, nq, rfl⟩)
  go_ret2
  exact ⟨rfl, (b1.trans (b2.mono b1.size)).trans ⟨rfl, rfl, rfl, Nat.le_refl _, fun _ _ => rfl⟩⟩
theorem zz_gtIntSlices (ao bo : Option Addr) (c1 c2 : Nat) (xs ys : List Int) (w : World) (hn : xs.length ≤ 1048576) (hm : ys.length ≤ 1048576) (hs : IntsArg w ao c1 xs) (ht : IntsArg w bo c2 ys) :
    Calls Tryz.prog 22 #[.slice ao xs.length c1, .slice bo ys.length c2] w fun e w' => e = .returned (.tuple #[.bool (decide (0 < cmpL xs ys)), .bool true]) ∧ Below w.heap.size w w' := by
  go_enter Tryz.func22, Tryz.ntmps22
  go_wp2_with fail
  refine (toAny_any _ _ _ _ hn hs).mono ?_
  rintro e w1 ⟨a1, k1, rfl, h1, b1⟩
  go_wp2_with fail
  refine (toAny_any _ _ _ _ hm (ht.below b1)).mono ?_
  rintro e w2 ⟨a2, k2, rfl, h2, b2⟩
  have h1' := h1.below b2
  have HC := Lib.hid (retD_of_arr xs ys a1 a2 k1 k2 w2 hn hm h1' h2)
  clear hs ht h1 h2 h1'
  go_wp2_with (go_at_call 34; refine (funcOpGt_of _ _ _ _ HC.out).mono ?_; rintro e w' ⟨rfl, nq, rfl⟩)
  go_ret2
  exact ⟨rfl, (b1.trans (b2.mono b1.size)).trans ⟨rfl, rfl, rfl, Nat.le_refl _, fun _ _ => rfl⟩⟩
theorem geti_cons (x : Int) (xs : List Int) (k : Nat) : geti (x :: xs) (k + 1) = geti xs k := by simp [geti]
theorem cmpL_zero : ∀ xs ys : List Int, (cmpL xs ys == 0) = (xs == ys)
  | [], [] => rfl
  | [], _ :: _ => rfl
  | _ :: _, [] => rfl
  | x :: xs, y :: ys => by
    rw [cmpL, List.cons_beq_cons]
    by_cases h1 : x < y
    · have : (x == y) = false := by simp; omega
      rw [if_pos h1, this]; rfl
    · by_cases h2 : y < x
      · have : (x == y) = false := by simp; omega
        rw [if_neg h1, if_pos h2, this]; rfl
      · have : (x == y) = true := by simp; omega
        rw [if_neg h1, if_neg h2, cmpL_zero xs ys, this, Bool.true_and]
theorem cmpL_neg : ∀ xs ys : List Int, cmpL ys xs = - cmpL xs ys
  | [], [] => rfl
  | [], _ :: _ => rfl
  | _ :: _, [] => rfl
  | x :: xs, y :: ys => by
    rw [cmpL, cmpL]
    by_cases h1 : x < y
    · rw [if_neg (by omega), if_pos h1, if_pos h1]; rfl
    · by_cases h2 : y < x
      · rw [if_pos h2, if_neg h1, if_pos h2]
      · rw [if_neg h2, if_neg h1, if_neg h1, if_neg h2, cmpL_neg xs ys]
def sameI (xs ys : List Int) (k : Nat) : Bool := xs.drop k == ys.drop k
theorem drop_geti (xs : List Int) (k : Nat) (h : k < xs.length) : xs.drop k = geti xs k :: xs.drop (k + 1) := by
  rw [List.drop_eq_getElem_cons h]; simp [geti, List.getD_eq_getElem?_getD, List.getElem?_eq_getElem h]
theorem sameI_ne (xs ys : List Int) (k : Nat) (h1 : k < xs.length) (h2 : k < ys.length) (h : geti xs k ≠ geti ys k) : sameI xs ys k = false := by
  unfold sameI
  rw [drop_geti xs k h1, drop_geti ys k h2, beq_eq_false_iff_ne]
  intro e
  exact h (List.cons.inj e).1
theorem sameI_eq (xs ys : List Int) (k : Nat) (h1 : k < xs.length) (h2 : k < ys.length) (h : geti xs k = geti ys k) : sameI xs ys k = sameI xs ys (k + 1) := by
  unfold sameI
  rw [drop_geti xs k h1, drop_geti ys k h2, h, List.cons_beq_cons]; simp
theorem sameI_end (xs ys : List Int) (h : xs.length = ys.length) : sameI xs ys xs.length = true := by
  unfold sameI
  rw [List.drop_of_length_le (by simp), List.drop_of_length_le (by simp [h])]; rfl
theorem sameI_size (xs ys : List Int) (h : xs.length ≠ ys.length) : sameI xs ys 0 = false := by
  unfold sameI
  rw [List.drop_zero, List.drop_zero, beq_eq_false_iff_ne]
  intro e
  exact h (by rw [e])
set_option maxRecDepth 100000 in
set_option maxHeartbeats 800000 in
theorem sameInts_any (ao bo : Option Addr) (c1 c2 : Nat) (xs ys : List Int) (w : World) (hn : xs.length ≤ 1048576) (_hm : ys.length ≤ 1048576) (hs : IntsArg w ao c1 xs) (ht : IntsArg w bo c2 ys) :
    Calls Tryz.prog 17 #[.slice ao xs.length c1, .slice bo ys.length c2] w (RetD (.bool (sameI xs ys 0)) w) := by
  have Hs := Lib.hid hs.at'
  have Ht := Lib.hid ht.at'
  clear hs ht
  by_cases hab : xs.length = ys.length
  · have hnb : ((xs.length : Int) != ys.length) = false := by simp [hab]
    have Hab := Lib.hid hab
    have hle : ys.length ≤ xs.length := by omega
    have hle2 : xs.length ≤ ys.length := by omega
    clear hab
    go_enter Tryz.func17, Tryz.ntmps17
    go_wp2
    go_loopw [5] (fun i wr => ∃ k : Nat, k ≤ xs.length ∧ i = .int .i64 k ∧ Hid (sameI xs ys 0 = sameI xs ys k) ∧ Hid (∃ nq, wr = w.drewN nq)) (fun i _ => xs.length - (intOf i).toNat)
    case atStart => exact ⟨0, Nat.zero_le _, rfl, rfl, ⟨0, rfl⟩⟩
    case round =>
      obtain ⟨k, hk1, rfl, Hc, Hw⟩ := hrel
      by_cases hlt1 : k < xs.length
      · have hlt2 : k < ys.length := by omega
        obtain ⟨b, off, hao, hc⟩ := Hs.out k hlt1
        subst hao
        obtain ⟨b', off', hbo, hc'⟩ := Ht.out k hlt2
        subst hbo
        have hcw : wr.cell? ⟨b, off + k, none⟩ = some (.int .i64 (geti xs k)) := by obtain ⟨nq, rfl⟩ := Hw.out; exact hc
        have hcw' : wr.cell? ⟨b', off' + k, none⟩ = some (.int .i64 (geti ys k)) := by obtain ⟨nq, rfl⟩ := Hw.out; exact hc'
        clear hc hc'
        by_cases hz : geti xs k = geti ys k
        · have HS := Lib.hid (sameI_eq xs ys k hlt1 hlt2 hz)
          have hzb : (geti xs k != geti ys k) = false := by rw [hz]; simp
          clear hz
          go_wp2
          go_quiet (fail)
          go_wp2
          go_roundw
          case rel => exact ⟨k + 1, by omega, by go_num, Lib.hid (by rw [Hc.out, HS.out]), Lib.hid (drew_more Hw.out _)⟩
          case measure => simp [intOf]; omega
        · have HS := Lib.hid (sameI_ne xs ys k hlt1 hlt2 hz)
          have hzb : (geti xs k != geti ys k) = true := by simp [bne, hz]
          clear hz
          go_wp2
          go_quiet (fail)
          go_wp2
          go_ret
          exact ⟨ret_bool (by rw [Hc.out, HS.out]), drew_more Hw.out _⟩
      · obtain rfl : k = xs.length := by omega
        go_wp2
        go_ret
        exact ⟨ret_bool (by rw [Hc.out, sameI_end xs ys Hab.out]), Hw.out⟩
  · have hnb : ((xs.length : Int) != ys.length) = true := by simp [bne]; omega
    have HS := Lib.hid (sameI_size xs ys hab)
    clear hab
    go_enter Tryz.func17, Tryz.ntmps17
    go_wp2
    go_ret
    exact ⟨ret_bool HS.out.symm, 0, rfl⟩
set_option maxRecDepth 100000 in
set_option maxHeartbeats 800000 in
theorem lawEqInts (ao bo : Option Addr) (c1 c2 : Nat) (xs ys : List Int) (w : World) (ha : xs.length ≤ 9223372036854775807) (hb : ys.length ≤ 9223372036854775807) (hs : IntsArg w ao c1 xs) (ht : IntsArg w bo c2 ys) :
    Calls Tryz.prog 5 #[.slice ao xs.length c1, .slice bo ys.length c2] w fun e w' => e = .returned (.bool true) ∧ Below w.heap.size w w' := by
  by_cases h3 : xs.length + ys.length ≤ 1048576
  · by_cases h4 : xs.length ≤ 65536 ∧ ys.length ≤ 65536
    · obtain ⟨h4, h5⟩ := h4
      go_enter Tryz.func5, Tryz.ntmps5
      go_wp2_with (go_at_call 14; refine (bytesEqI _ _ _ _ _ _ ha hb _).mono ?_; rintro e w' ⟨rfl, rfl⟩)
      go_wp2_with fail
      refine (clone_any _ _ _ _ (by omega) hs).mono ?_
      rintro e w1 ⟨a1, k1, rfl, i1, b1⟩
      go_wp2_with fail
      refine (clone_any _ _ _ _ (by omega) (ht.below b1)).mono ?_
      rintro e w2 ⟨a2, k2, rfl, i2, b2⟩
      have i1' := i1.below b2
      go_wp2_with fail
      refine (zz_eqIntSlices _ _ _ _ _ _ _ (by omega) (by omega) i1' i2).mono ?_
      rintro e w3 ⟨rfl, b3⟩
      have HF := Lib.hid (show Below w.heap.size w w3 from (b1.trans (b2.mono b1.size)).trans (b3.mono (Nat.le_trans b1.size b2.size)))
      have j1 := i1'.below b3
      have j2 := i2.below b3
      have HZ := Lib.hid (cmpL_zero xs ys)
      clear hs ht i1 i2 i1' b1 b2 b3
      go_wp2_with (go_at_call 17; refine (sameInts_any _ _ _ _ _ _ _ (by omega) (by omega) j1 j2).mono ?_; rintro e w4 ⟨rfl, nq, rfl⟩)
      all_goals go_ret
      all_goals exact ⟨ret_bool (by simp [HZ.out, sameI]), HF.out.trans ⟨rfl, rfl, rfl, Nat.le_refl _, fun _ _ => rfl⟩⟩
    · go_enter Tryz.func5, Tryz.ntmps5
      go_wp2_with (go_at_call 14; refine (bytesEqI _ _ _ _ _ _ ha hb _).mono ?_; rintro e w' ⟨rfl, rfl⟩)
      all_goals (go_ret; exact ⟨rfl, Below.refl _ _⟩)
  · have h3' : 1048576 < xs.length + ys.length := by omega
    go_enter Tryz.func5, Tryz.ntmps5
    go_wp2_with (go_at_call 14; refine (bytesEqI _ _ _ _ _ _ ha hb _).mono ?_; rintro e w' ⟨rfl, rfl⟩)
    go_ret
    exact ⟨rfl, Below.refl _ _⟩
set_option maxRecDepth 100000 in
set_option maxHeartbeats 800000 in
theorem lawNeInts (ao bo : Option Addr) (c1 c2 : Nat) (xs ys : List Int) (w : World) (ha : xs.length ≤ 9223372036854775807) (hb : ys.length ≤ 9223372036854775807) (hs : IntsArg w ao c1 xs) (ht : IntsArg w bo c2 ys) :
    Calls Tryz.prog 6 #[.slice ao xs.length c1, .slice bo ys.length c2] w fun e w' => e = .returned (.bool true) ∧ Below w.heap.size w w' := by
  by_cases h3 : xs.length + ys.length ≤ 1048576
  · by_cases h4 : xs.length ≤ 65536 ∧ ys.length ≤ 65536
    · obtain ⟨h4, h5⟩ := h4
      go_enter Tryz.func6, Tryz.ntmps6
      go_wp2_with (go_at_call 18; refine (bytesNeI _ _ _ _ _ _ ha hb _).mono ?_; rintro e w' ⟨rfl, rfl⟩)
      go_wp2_with fail
      refine (clone_any _ _ _ _ (by omega) hs).mono ?_
      rintro e w1 ⟨a1, k1, rfl, i1, b1⟩
      go_wp2_with fail
      refine (clone_any _ _ _ _ (by omega) (ht.below b1)).mono ?_
      rintro e w2 ⟨a2, k2, rfl, i2, b2⟩
      have i1' := i1.below b2
      go_wp2_with fail
      refine (zz_neIntSlices _ _ _ _ _ _ _ (by omega) (by omega) i1' i2).mono ?_
      rintro e w3 ⟨rfl, b3⟩
      have HF := Lib.hid (show Below w.heap.size w w3 from (b1.trans (b2.mono b1.size)).trans (b3.mono (Nat.le_trans b1.size b2.size)))
      have j1 := i1'.below b3
      have j2 := i2.below b3
      have HZ := Lib.hid (cmpL_zero xs ys)
      clear hs ht i1 i2 i1' b1 b2 b3
      go_wp2_with (go_at_call 17; refine (sameInts_any _ _ _ _ _ _ _ (by omega) (by omega) j1 j2).mono ?_; rintro e w4 ⟨rfl, nq, rfl⟩)
      all_goals go_ret
      all_goals exact ⟨ret_bool (by simp [HZ.out, sameI, bne]), HF.out.trans ⟨rfl, rfl, rfl, Nat.le_refl _, fun _ _ => rfl⟩⟩
    · go_enter Tryz.func6, Tryz.ntmps6
      go_wp2_with (go_at_call 18; refine (bytesNeI _ _ _ _ _ _ ha hb _).mono ?_; rintro e w' ⟨rfl, rfl⟩)
      all_goals (go_ret; exact ⟨rfl, Below.refl _ _⟩)
  · have h3' : 1048576 < xs.length + ys.length := by omega
    go_enter Tryz.func6, Tryz.ntmps6
    go_wp2_with (go_at_call 18; refine (bytesNeI _ _ _ _ _ _ ha hb _).mono ?_; rintro e w' ⟨rfl, rfl⟩)
    go_ret
    exact ⟨rfl, Below.refl _ _⟩
theorem cmpL_less (xs ys : List Int) (k : Nat) (hx : k < xs.length) (hy : k < ys.length) (h : geti xs k < geti ys k) : cmpL (xs.drop k) (ys.drop k) = -1 := by
  rw [cmpL_step xs ys k hx hy]; simp [cmpI, h]
theorem cmpL_more (xs ys : List Int) (k : Nat) (hx : k < xs.length) (hy : k < ys.length) (h : geti ys k < geti xs k) : cmpL (xs.drop k) (ys.drop k) = 1 := by
  have h' : ¬ geti xs k < geti ys k := by omega
  rw [cmpL_step xs ys k hx hy]; simp [cmpI, h, h']
theorem cmpL_same (xs ys : List Int) (k : Nat) (hx : k < xs.length) (hy : k < ys.length) (h : geti xs k = geti ys k) : cmpL (xs.drop k) (ys.drop k) = cmpL (xs.drop (k + 1)) (ys.drop (k + 1)) := by
  rw [cmpL_step xs ys k hx hy, h]; simp [cmpI]
set_option maxRecDepth 100000 in
set_option maxHeartbeats 1600000 in
theorem lexInts_any (ao bo : Option Addr) (c1 c2 : Nat) (xs ys : List Int) (w : World) (hn : xs.length ≤ 1048576) (_hm : ys.length ≤ 1048576) (hs : IntsArg w ao c1 xs) (ht : IntsArg w bo c2 ys) :
    Calls Tryz.prog 21 #[.slice ao xs.length c1, .slice bo ys.length c2] w (RetD (.int .i64 (cmpL xs ys)) w) := by
  have Hs := Lib.hid hs.at'
  have Ht := Lib.hid ht.at'
  clear hs ht
  go_enter Tryz.func21, Tryz.ntmps21
  go_wp2
  go_loopw [5] (fun i wr => ∃ k : Nat, k ≤ xs.length ∧ k ≤ ys.length ∧ i = .int .i64 k ∧ Hid (cmpL xs ys = cmpL (xs.drop k) (ys.drop k)) ∧ Hid (∃ nq, wr = w.drewN nq)) (fun i _ => xs.length - (intOf i).toNat)
  case atStart => exact ⟨0, Nat.zero_le _, Nat.zero_le _, rfl, rfl, ⟨0, rfl⟩⟩
  case round =>
    obtain ⟨k, hk1, hk2, rfl, Hc, Hw⟩ := hrel
    by_cases hlt1 : k < xs.length
    · by_cases hlt2 : k < ys.length
      · obtain ⟨b, off, hao, hc⟩ := Hs.out k hlt1
        subst hao
        obtain ⟨b', off', hbo, hc'⟩ := Ht.out k hlt2
        subst hbo
        have hcw : wr.cell? ⟨b, off + k, none⟩ = some (.int .i64 (geti xs k)) := by obtain ⟨nq, rfl⟩ := Hw.out; exact hc
        have hcw' : wr.cell? ⟨b', off' + k, none⟩ = some (.int .i64 (geti ys k)) := by obtain ⟨nq, rfl⟩ := Hw.out; exact hc'
        clear hc hc'
        by_cases h1 : geti xs k < geti ys k
        · have HS := Lib.hid (cmpL_less xs ys k hlt1 hlt2 h1)
          go_wp2
          go_quiet (fail)
          go_wp2
          go_ret
          exact ⟨ret_int (by rw [Hc.out, HS.out]), drew_more Hw.out _⟩
        · by_cases h2 : geti ys k < geti xs k
          · have HS := Lib.hid (cmpL_more xs ys k hlt1 hlt2 h2)
            go_wp2
            go_quiet (fail)
            go_wp2
            go_quiet (fail)
            go_wp2
            go_ret
            exact ⟨ret_int (by rw [Hc.out, HS.out]), drew_more (drew_more Hw.out _) _⟩
          · have HS := Lib.hid (cmpL_same xs ys k hlt1 hlt2 (by omega))
            go_wp2
            go_quiet (fail)
            go_wp2
            go_quiet (fail)
            go_wp2
            go_roundw
            case rel => exact ⟨k + 1, by omega, by omega, by go_num, Lib.hid (by rw [Hc.out, HS.out]), Lib.hid (drew_more Hw.out _)⟩
            case measure => simp [intOf]; omega
      · obtain rfl : k = ys.length := by omega
        have HE := Lib.hid (cmpL_end xs ys _ (Or.inr rfl) hk1 hk2)
        have hE2 : ¬ xs.length < ys.length := by omega
        have hE3 : ys.length < xs.length := by omega
        go_wp2
        all_goals (go_ret; exact ⟨ret_int (by rw [Hc.out, HE.out]; unfold cmpI; omega), Hw.out⟩)
    · obtain rfl : k = xs.length := by omega
      have HE := Lib.hid (cmpL_end xs ys _ (Or.inl rfl) hk1 hk2)
      go_wp2
      all_goals (go_ret; exact ⟨ret_int (by rw [Hc.out, HE.out]; unfold cmpI; omega), Hw.out⟩)
set_option maxRecDepth 100000 in
set_option maxHeartbeats 800000 in
theorem lawGtInts (ao bo : Option Addr) (c1 c2 : Nat) (xs ys : List Int) (w : World) (ha : xs.length ≤ 9223372036854775807) (hb : ys.length ≤ 9223372036854775807) (hs : IntsArg w ao c1 xs) (ht : IntsArg w bo c2 ys) :
    Calls Tryz.prog 7 #[.slice ao xs.length c1, .slice bo ys.length c2] w fun e w' => e = .returned (.bool true) ∧ Below w.heap.size w w' := by
  by_cases h3 : xs.length + ys.length ≤ 1048576
  · by_cases h4 : xs.length ≤ 65536 ∧ ys.length ≤ 65536
    · obtain ⟨h4, h5⟩ := h4
      go_enter Tryz.func7, Tryz.ntmps7
      go_wp2_with (go_at_call 20; refine (bytesGtI _ _ _ _ _ _ ha hb _).mono ?_; rintro e w' ⟨rfl, rfl⟩)
      go_wp2_with fail
      refine (clone_any _ _ _ _ (by omega) hs).mono ?_
      rintro e w1 ⟨a1, k1, rfl, i1, b1⟩
      go_wp2_with fail
      refine (clone_any _ _ _ _ (by omega) (ht.below b1)).mono ?_
      rintro e w2 ⟨a2, k2, rfl, i2, b2⟩
      have i1' := i1.below b2
      have HN := Lib.hid (cmpL_neg xs ys)
      go_wp2_with fail
      refine (lexInts_any _ _ _ _ _ _ _ (by omega) (by omega) i1' i2).mono ?_
      rintro e w3 ⟨rfl, nq, rfl⟩
      have b3 : Below w2.heap.size w2 (w2.drewN nq) := ⟨rfl, rfl, rfl, Nat.le_refl _, fun _ _ => rfl⟩
      have j1 := i1'.below b3
      have j2 := i2.below b3
      go_wp2_with fail
      refine (zz_gtIntSlices _ _ _ _ _ _ _ (by omega) (by omega) j1 j2).mono ?_
      rintro e w4 ⟨rfl, b4⟩
      go_wp2_with fail
      refine (zz_gtIntSlices _ _ _ _ _ _ _ (by omega) (by omega) (j2.below b4) (j1.below b4)).mono ?_
      rintro e w5 ⟨rfl, b5⟩
      have HF := Lib.hid (show Below w.heap.size w w5 from (((b1.trans (b2.mono b1.size)).trans (b3.mono (Nat.le_trans b1.size b2.size))).trans (b4.mono (Nat.le_trans b1.size b2.size))).trans (b5.mono (Nat.le_trans (Nat.le_trans b1.size b2.size) b4.size)))
      have HG := Lib.hid (show decide (0 < cmpL ys xs) = decide (cmpL xs ys < 0) from by rw [cmpL_neg xs ys]; simp)
      clear hs ht i1 i2 i1' b1 b2 b3 b4 b5 j1 j2
      rw [HG.out]
      go_wp2
      all_goals go_ret
      all_goals exact ⟨rfl, HF.out⟩
    · go_enter Tryz.func7, Tryz.ntmps7
      go_wp2_with (go_at_call 20; refine (bytesGtI _ _ _ _ _ _ ha hb _).mono ?_; rintro e w' ⟨rfl, rfl⟩)
      all_goals (go_ret; exact ⟨rfl, Below.refl _ _⟩)
  · have h3' : 1048576 < xs.length + ys.length := by omega
    go_enter Tryz.func7, Tryz.ntmps7
    go_wp2_with (go_at_call 20; refine (bytesGtI _ _ _ _ _ _ ha hb _).mono ?_; rintro e w' ⟨rfl, rfl⟩)
    go_ret
    exact ⟨rfl, Below.refl _ _⟩
end Go.Proofs.YtdklmpgjpnjdmaaGreatDoor
