/- Arrays of ints as values: what Compare answers on them; the cells of a slice of interface values. Conditions: at most 1048576 elements. -/
import Derived.Test.YtlhkbdeceogjgaaGreatDoorCmp
import Derived.Deep.QuietTactic
import Derived.BigQuiet
namespace Go.Proofs.YtlhkbdeceogjgaaGreatDoor
open Go.RowKit Go
def RetD (v : Value) (w : World) (e : Ending) (w' : World) : Prop := e = .returned v ∧ ∃ n, w' = w.drewN n
theorem drew_more {w wr : World} (h : ∃ n, wr = w.drewN n) (m : Nat) : ∃ n, wr.drewN m = w.drewN n := by
  obtain ⟨n, rfl⟩ := h
  exact ⟨_, World.drewN_drewN _ _ _⟩
theorem retD_below {v : Value} {w : World} {e : Ending} {w' : World} (h : RetD v w e w') : e = .returned v ∧ Below w.heap.size w w' := by
  obtain ⟨he, n, rfl⟩ := h
  exact ⟨he, (Below.refl _ _).trans ⟨rfl, rfl, rfl, Nat.le_refl _, fun _ _ => rfl⟩⟩
theorem infoAny : (Tryz.prog.info? 20).map (fun i => (i.zero, i.size, i.bytes)) = some (some .nilIface, 1, 16) := by kernel_rfl
def geti (zs : List Int) (k : Nat) : Int := zs.getD k 0
def wrapI (z : Int) : Value := .iface 3 (.int .i64 z)
def part (zs : List Int) (k : Nat) : Array Value := ((zs.take k).map wrapI ++ List.replicate (zs.length - k) Value.nilIface).toArray
theorem part_zero (zs : List Int) : madeCells #[Value.nilIface] (zs.length * 1) = part zs 0 := by
  simp [part, madeCells]
  apply Array.ext <;> simp [Nat.mod_one]
theorem size_part (zs : List Int) (k : Nat) (h : k ≤ zs.length) : (part zs k).size = zs.length := by
  simp [part]; omega
theorem part_get (zs : List Int) (k : Nat) (h : k < zs.length) : (part zs k)[k]? = some .nilIface := by
  simp only [part, List.getElem?_toArray]
  rw [List.getElem?_append_right (by simp; omega)]
  simp [List.getElem?_replicate]; omega
theorem part_set (zs : List Int) (k : Nat) (h : k < zs.length) : (part zs k).setIfInBounds k (.iface 3 (.int .i64 (geti zs k))) = part zs (k + 1) := by
  apply Array.ext'
  simp only [part, List.setIfInBounds_toArray]
  have e : zs.length - k = (zs.length - (k + 1)) + 1 := by omega
  rw [List.set_append_right _ _ (by simp; omega), e, List.replicate_succ, List.take_succ_eq_append_getElem h, List.map_append]
  simp [geti, wrapI, List.getD_eq_getElem?_getD, List.getElem?_eq_getElem h, Nat.min_eq_left (Nat.le_of_lt h), - List.map_take]
theorem make_any (w : World) (n : Nat) (zs : List Int) (hz : zs.length = n) (h : n ≤ 1048576) :
    (Instr.makeSlice 68 (.int .i64 n) (.int .i64 n)).run Tryz.prog w = .ok (.slice (some ⟨w.heap.size, 0, none⟩) n n) (w.alloc (.cells (part zs 0) 20)) := by
  obtain ⟨i0, hi, hz0, hz1, hz2⟩ := info_parts infoAny
  rw [run_make w 68 20 i0 .nilIface Tryz.underlying68 hi hz0 .i64 .i64 n n (by omega) (by omega) (by rw [hz2]; omega) (by omega)]
  rw [hz1, ← hz, Int.toNat_natCast, ← part_zero]
  rfl
def cmpL : List Int → List Int → Int
  | [], [] => 0
  | [], _ :: _ => -1
  | _ :: _, [] => 1
  | x :: xs, y :: ys => if x < y then -1 else if y < x then 1 else cmpL xs ys
theorem quiet_left {P : Program} {f : FuncId} {args : Array Value} {w : World} {n : Nat} {v : Value}
    (h : Calls P f args (w.drewN n) (Ret v (w.drewN n))) : Calls P f args (w.drewN n) fun e w'' => e = .returned v ∧ ∃ m, w'' = w.drewN m :=
  h.mono fun _ _ ⟨he, hm⟩ => ⟨he, n, hm.symm⟩
theorem cmpI_ne {a b : Int} (h : a ≠ b) : (cmpI a b == 0) = false := by unfold cmpI; split <;> (try split) <;> first | rfl | omega
theorem cmpL_step (xs ys : List Int) (k : Nat) (hx : k < xs.length) (hy : k < ys.length) :
    cmpL (xs.drop k) (ys.drop k) = if cmpI (geti xs k) (geti ys k) == 0 then cmpL (xs.drop (k + 1)) (ys.drop (k + 1)) else cmpI (geti xs k) (geti ys k) := by
  rw [List.drop_eq_getElem_cons hx, List.drop_eq_getElem_cons hy, cmpL]
  simp only [geti, List.getD_eq_getElem?_getD, List.getElem?_eq_getElem hx, List.getElem?_eq_getElem hy, Option.getD_some, cmpI]
  split
  · rfl
  · split <;> rfl
theorem cmpL_end (xs ys : List Int) (k : Nat) (h : k = xs.length ∨ k = ys.length) (hx : k ≤ xs.length) (hy : k ≤ ys.length) :
    cmpL (xs.drop k) (ys.drop k) = cmpI xs.length ys.length := by
  unfold cmpI
  rcases h with rfl | rfl
  · rw [List.drop_length]
    cases hd : ys.drop xs.length with
    | nil => have := congrArg List.length hd; simp at this; rw [cmpL, if_neg (by omega), if_neg (by omega)]
    | cons y l => have := congrArg List.length hd; simp at this; rw [cmpL, if_pos (by omega)]
  · rw [List.drop_length]
    cases hd : xs.drop ys.length with
    | nil => have := congrArg List.length hd; simp at this; rw [cmpL, if_neg (by omega), if_neg (by omega)]
    | cons y l => have := congrArg List.length hd; simp at this; rw [cmpL, if_neg (by omega), if_pos (by omega)]
set_option maxRecDepth 100000 in
set_option maxHeartbeats 400000 in
theorem cmpArr_any (ao bo : Option Addr) (n m c1 c2 : Nat) (xs ys : List Int) (w : World) (hx : xs.length = n) (hy : ys.length = m) (hn : n ≤ 1048576) (hm : m ≤ 1048576)
    (hs : ∀ k, k < n → ∃ b off, ao = some ⟨b, off, none⟩ ∧ w.cell? ⟨b, off + k, none⟩ = some (.iface 3 (.int .i64 (geti xs k))))
    (ht : ∀ k, k < m → ∃ b off, bo = some ⟨b, off, none⟩ ∧ w.cell? ⟨b, off + k, none⟩ = some (.iface 3 (.int .i64 (geti ys k)))) :
    Calls Tryz.prog 87 #[.slice ao n c1, .slice bo m c2] w (RetD (.int .i64 (cmpL xs ys)) w) := by
  have Hs := Lib.hid hs
  have Ht := Lib.hid ht
  have Hx := Lib.hid hx
  have Hy := Lib.hid hy
  clear hs ht hx hy
  go_enter Tryz.func87, Tryz.ntmps87
  by_cases hnm : m < n
  · go_wp2
    go_loopw [5, 6, 12] (fun _ _ i wr => ∃ k : Nat, k ≤ n ∧ k ≤ m ∧ i = .int .i64 k ∧ Hid (cmpL xs ys = cmpL (xs.drop k) (ys.drop k)) ∧ Hid (∃ nq, wr = w.drewN nq)) (fun _ _ i _ => n - (intOf i).toNat)
    case atStart => exact ⟨0, Nat.zero_le _, Nat.zero_le _, rfl, rfl, ⟨0, rfl⟩⟩
    case round =>
      obtain ⟨k, hk1, hk2, rfl, Hc, Hw⟩ := hrel
      by_cases hlt : k < n ∧ k < m
      · obtain ⟨hlt1, hlt2⟩ := hlt
        obtain ⟨b, off, hao, hc⟩ := Hs.out k hlt1
        subst hao
        obtain ⟨b', off', hbo, hc'⟩ := Ht.out k hlt2
        subst hbo
        have hcw : wr.cell? ⟨b, off + k, none⟩ = some (.iface 3 (.int .i64 (geti xs k))) := by obtain ⟨nq, rfl⟩ := Hw.out; exact hc
        have hcw' : wr.cell? ⟨b', off' + k, none⟩ = some (.iface 3 (.int .i64 (geti ys k))) := by obtain ⟨nq, rfl⟩ := Hw.out; exact hc'
        clear hc hc'
        go_wp2
        have hst := Lib.hid (cmpL_step xs ys k (by rw [Hx.out]; exact hlt1) (by rw [Hy.out]; exact hlt2))
        by_cases hz : geti xs k = geti ys k
        · have hzb : (cmpI (geti xs k) (geti ys k) != 0) = false := by rw [hz]; simp [cmpI]
          have Hz := Lib.hid hz
          clear hz
          go_quiet ((go_at_call 62; exact quiet_left (compare_ii _ _ _)))
          go_wp2
          go_roundw
          case rel => exact ⟨k + 1, by omega, by omega, by go_num, Lib.hid (by rw [Hc.out, hst.out, Hz.out]; simp [cmpI]), Lib.hid (by obtain ⟨n0, h0⟩ := Hw.out; exact ⟨n0 + _, by rw [h0, World.drewN_drewN]⟩)⟩
          case measure => simp [intOf]; omega
        · have hzb : (cmpI (geti xs k) (geti ys k) != 0) = true := by simp [bne, cmpI_ne hz]
          have Hz := Lib.hid (cmpI_ne hz)
          clear hz
          go_quiet ((go_at_call 62; exact quiet_left (compare_ii _ _ _)))
          go_wp2
          go_ret
          exact ⟨ret_int (by rw [Hc.out, hst.out, Hz.out]; rfl), by obtain ⟨n0, h0⟩ := Hw.out; exact ⟨n0 + _, by rw [h0, World.drewN_drewN]⟩⟩
      · obtain rfl : k = m := by omega
        go_wp2_with (go_at_call 82; refine (cmpInt_any _ _ _).mono ?_; rintro e w' ⟨rfl, rfl⟩)
        go_ret
        exact ⟨ret_int (by rw [Hc.out, cmpL_end xs ys _ (by rw [Hx.out, Hy.out]; simp) (by rw [Hx.out]; omega) (by rw [Hy.out]; omega), Hx.out, Hy.out]), Hw.out⟩
  · go_wp2
    go_loopw [5, 6, 12] (fun _ _ i wr => ∃ k : Nat, k ≤ n ∧ k ≤ m ∧ i = .int .i64 k ∧ Hid (cmpL xs ys = cmpL (xs.drop k) (ys.drop k)) ∧ Hid (∃ nq, wr = w.drewN nq)) (fun _ _ i _ => n - (intOf i).toNat)
    case atStart => exact ⟨0, Nat.zero_le _, Nat.zero_le _, rfl, rfl, ⟨0, rfl⟩⟩
    case round =>
      obtain ⟨k, hk1, hk2, rfl, Hc, Hw⟩ := hrel
      by_cases hlt : k < n ∧ k < m
      · obtain ⟨hlt1, hlt2⟩ := hlt
        obtain ⟨b, off, hao, hc⟩ := Hs.out k hlt1
        subst hao
        obtain ⟨b', off', hbo, hc'⟩ := Ht.out k hlt2
        subst hbo
        have hcw : wr.cell? ⟨b, off + k, none⟩ = some (.iface 3 (.int .i64 (geti xs k))) := by obtain ⟨nq, rfl⟩ := Hw.out; exact hc
        have hcw' : wr.cell? ⟨b', off' + k, none⟩ = some (.iface 3 (.int .i64 (geti ys k))) := by obtain ⟨nq, rfl⟩ := Hw.out; exact hc'
        clear hc hc'
        go_wp2
        have hst := Lib.hid (cmpL_step xs ys k (by rw [Hx.out]; exact hlt1) (by rw [Hy.out]; exact hlt2))
        by_cases hz : geti xs k = geti ys k
        · have hzb : (cmpI (geti xs k) (geti ys k) != 0) = false := by rw [hz]; simp [cmpI]
          have Hz := Lib.hid hz
          clear hz
          go_quiet ((go_at_call 62; exact quiet_left (compare_ii _ _ _)))
          go_wp2
          go_roundw
          case rel => exact ⟨k + 1, by omega, by omega, by go_num, Lib.hid (by rw [Hc.out, hst.out, Hz.out]; simp [cmpI]), Lib.hid (by obtain ⟨n0, h0⟩ := Hw.out; exact ⟨n0 + _, by rw [h0, World.drewN_drewN]⟩)⟩
          case measure => simp [intOf]; omega
        · have hzb : (cmpI (geti xs k) (geti ys k) != 0) = true := by simp [bne, cmpI_ne hz]
          have Hz := Lib.hid (cmpI_ne hz)
          clear hz
          go_quiet ((go_at_call 62; exact quiet_left (compare_ii _ _ _)))
          go_wp2
          go_ret
          exact ⟨ret_int (by rw [Hc.out, hst.out, Hz.out]; rfl), by obtain ⟨n0, h0⟩ := Hw.out; exact ⟨n0 + _, by rw [h0, World.drewN_drewN]⟩⟩
      · obtain rfl : k = n := by omega
        go_wp2_with (go_at_call 82; refine (cmpInt_any _ _ _).mono ?_; rintro e w' ⟨rfl, rfl⟩)
        go_ret
        exact ⟨ret_int (by rw [Hc.out, cmpL_end xs ys _ (by rw [Hx.out, Hy.out]; simp) (by rw [Hx.out]; omega) (by rw [Hy.out]; omega), Hx.out, Hy.out]), Hw.out⟩
set_option maxRecDepth 100000 in
set_option maxHeartbeats 400000 in
theorem compare_arr (ao bo : Option Addr) (n m c1 c2 : Nat) (xs ys : List Int) (w : World) (hx : xs.length = n) (hy : ys.length = m) (hn : n ≤ 1048576) (hm : m ≤ 1048576)
    (hs : ∀ k, k < n → ∃ b off, ao = some ⟨b, off, none⟩ ∧ w.cell? ⟨b, off + k, none⟩ = some (.iface 3 (.int .i64 (geti xs k))))
    (ht : ∀ k, k < m → ∃ b off, bo = some ⟨b, off, none⟩ ∧ w.cell? ⟨b, off + k, none⟩ = some (.iface 3 (.int .i64 (geti ys k)))) :
    Calls Tryz.prog 62 #[.iface 68 (.slice ao n c1), .iface 68 (.slice bo m c2)] w (RetD (.int .i64 (cmpL xs ys)) w) := by
  have H := Lib.hid (cmpArr_any ao bo n m c1 c2 xs ys w hx hy hn hm hs ht)
  clear hs ht hx hy
  go_enter Tryz.func62, Tryz.ntmps62
  go_wp2_with (first | (go_at_call 81; go_in) | (go_at_call 87; refine H.out.mono ?_; rintro e w' ⟨rfl, nq, rfl⟩))
  all_goals (go_ret; exact ⟨rfl, nq, rfl⟩)
end Go.Proofs.YtlhkbdeceogjgaaGreatDoor
