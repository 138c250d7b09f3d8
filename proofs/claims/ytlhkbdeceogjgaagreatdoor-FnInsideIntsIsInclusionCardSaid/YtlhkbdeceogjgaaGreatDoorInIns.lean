/- inside on arrays of ints: what funcContains answers. Conditions: at most 1048576 elements. -/
import Derived.Test.YtlhkbdeceogjgaaGreatDoorInts9
import Derived.Deep.LoopGhost
import Derived.WalkMore
namespace Go.Proofs.YtlhkbdeceogjgaaGreatDoor
open Go.RowKit Go
@[go_sem] theorem eql_bool_true (w : World) : (binOp .eql 20 (.iface 4 (.bool true)) (.iface 4 (.bool true))).run Tryz.prog w = .ok (.bool true) w := by kernel_rfl
@[go_sem] theorem eql_bool_false (w : World) : (binOp .eql 20 (.iface 4 (.bool false)) (.iface 4 (.bool true))).run Tryz.prog w = .ok (.bool false) w := by kernel_rfl
set_option maxRecDepth 100000 in
theorem contains_yes (a : Int) (w : World) : Calls Tryz.prog 69 #[.iface 3 (.int .i64 a), .iface 3 (.int .i64 a)] w (Ret (.iface 4 (.bool true)) w) := by
  have hb : (a == a) = true := by simp
  go_enter Tryz.func69, Tryz.ntmps69
  go_wp2_with (first | (go_at_call 70; go_in) | (go_at_call 100; go_in))
  go_ret
  exact ⟨by first | rfl | simp, rfl⟩
set_option maxRecDepth 100000 in
theorem contains_no (a b : Int) (h : a ≠ b) (w : World) : Calls Tryz.prog 69 #[.iface 3 (.int .i64 a), .iface 3 (.int .i64 b)] w (Ret (.iface 4 (.bool false)) w) := by
  have hb : (a == b) = false := by simpa using h
  go_enter Tryz.func69, Tryz.ntmps69
  go_wp2_with (first | (go_at_call 70; go_in) | (go_at_call 100; go_in))
  go_ret
  exact ⟨by first | rfl | simp [h], rfl⟩
/-- Is every element of vs one of xs? -/
def allIn (xs vs : List Int) : Bool := vs.all fun v => xs.contains v
theorem allIn_drop (xs vs : List Int) (k : Nat) (h : k < vs.length) : allIn xs (vs.drop k) = (xs.contains (geti vs k) && allIn xs (vs.drop (k + 1))) := by
  have e : geti vs k = vs[k] := by simp [geti, List.getD_eq_getElem?_getD, List.getElem?_eq_getElem h]
  unfold allIn
  rw [List.drop_eq_getElem_cons h, List.all_cons, e]
theorem has_drop (xs : List Int) (v : Int) (k : Nat) (h : k < xs.length) : (xs.drop k).contains v = (geti xs k == v || (xs.drop (k + 1)).contains v) := by
  rw [List.drop_eq_getElem_cons h]
  simp only [List.contains_cons, geti, List.getD_eq_getElem?_getD, List.getElem?_eq_getElem h, Option.getD_some]
  rw [Bool.beq_comm]
set_option maxRecDepth 100000 in
set_option maxHeartbeats 1600000 in
theorem containsArr (ao bo : Option Addr) (n m c1 c2 : Nat) (xs vs : List Int) (w : World) (hx : xs.length = n) (hy : vs.length = m) (hn : n ≤ 1048576) (hm : m ≤ 1048576) (hs : AnysArg w ao xs) (ht : AnysArg w bo vs) :
    Calls Tryz.prog 105 #[.slice ao n c1, .slice bo m c2] w (RetD (.iface 4 (.bool (allIn xs vs))) w) := by
  have Hs := Lib.hid hs.at'
  have Ht := Lib.hid ht.at'
  have Hx := Lib.hid hx
  have Hy := Lib.hid hy
  clear hs ht hx hy
  go_enter Tryz.func105, Tryz.ntmps105
  go_wp2
  go_step3
  go_wp2
  go_step3
  go_wp2
  go_loopg [6, 8, 11] m (fun g _ _ i wr => ∃ (k nq : Nat), k + g = m ∧ i = .int .i64 k ∧ Hid (allIn xs vs = allIn xs (vs.drop k)) ∧ wr = w.drewN nq)
  case atStart => exact ⟨0, 0, by omega, rfl, rfl, rfl⟩
  case round =>
    obtain ⟨k, nq, hkg, rfl, HA, rfl⟩ := hrel
    cases gk with
    | zero =>
      obtain rfl : k = m := by omega
      have HE := Lib.hid (show allIn xs vs = true from by rw [HA.out, List.drop_of_length_le (by rw [Hy.out]; exact Nat.le_refl _)]; rfl)
      go_wp2
      try rw [Exit.noGoto_ret]
      go_ret
      exact ⟨by rw [HE.out]; rfl, nq, rfl⟩
    | succ g =>
      have hkz : k < m := by omega
      obtain ⟨b, off, hbo, hc⟩ := Ht.out k (by rw [Hy.out]; exact hkz)
      cases hbo
      have HD := Lib.hid (allIn_drop xs vs k (by rw [Hy.out]; exact hkz))
      go_wp2
      go_loopg [8, 17] n (fun g' _ i wr => ∃ (q nq : Nat), q + g' = n ∧ i = .int .i64 q ∧ Hid (∀ z, z = geti vs k → xs.contains z = (xs.drop q).contains z) ∧ wr = w.drewN nq)
      case atStart => exact ⟨0, nq, by omega, rfl, Lib.hid (fun z _ => rfl), rfl⟩
      case round =>
        obtain ⟨q, nq, hqg, rfl, HQ, rfl⟩ := hrel
        cases gk with
        | zero =>
          obtain rfl : q = n := by omega
          have HE := Lib.hid (show allIn xs vs = false from by
            rw [HA.out, HD.out, HQ.out _ rfl, List.drop_of_length_le (by rw [Hx.out]; exact Nat.le_refl _)]; rfl)
          go_wp2
          try rw [Exit.noGoto_ret]
          go_ret
          exact ⟨by rw [HE.out]; rfl, nq, rfl⟩
        | succ g' =>
          have hqz : q < n := by omega
          obtain ⟨b2, off2, hao, hc2⟩ := Hs.out q (by rw [Hx.out]; exact hqz)
          cases hao
          have HS := Lib.hid (has_drop xs (geti vs k) q (by rw [Hx.out]; exact hqz))
          by_cases he : geti xs q = geti vs k
          · have HE := Lib.hid (show allIn xs vs = allIn xs (vs.drop (k + 1)) from by
              rw [HA.out, HD.out, HQ.out _ rfl, HS.out, he]; simp)
            have HX := Lib.hid he
            clear he
            go_wp2_with (go_at_call 69; rw [HX.out]; refine (contains_yes _ _).mono ?_; rintro e w' ⟨rfl, rfl⟩)
            go_roundg g
            case measure => omega
            case rel => exact ⟨k + 1, nq, by omega, by go_num, HE, rfl⟩
          · have HE := Lib.hid (show ∀ z, z = geti vs k → xs.contains z = (xs.drop (q + 1)).contains z from fun z hz => by
              rw [HQ.out z hz, hz, HS.out]
              have : (geti xs q == geti vs k) = false := by simpa using he
              rw [this, Bool.false_or])
            have HX := Lib.hid he
            clear he
            go_wp2_with (go_at_call 69; refine (contains_no _ _ HX.out _).mono ?_; rintro e w' ⟨rfl, rfl⟩)
            go_roundg g'
            case measure => omega
            case rel => exact ⟨q + 1, nq, by omega, by go_num, HE, rfl⟩
end Go.Proofs.YtlhkbdeceogjgaaGreatDoor
