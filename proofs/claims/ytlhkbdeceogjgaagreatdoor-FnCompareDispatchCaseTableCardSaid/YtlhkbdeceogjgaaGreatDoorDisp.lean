/- Compare on ints, floats, strings and numbers written out, against the law's own tables: the law walked. Conditions: none. -/
import Derived.Test.YtlhkbdeceogjgaaGreatDoorItoa
import Derived.Test.YtlhkbdeceogjgaaGreatDoorFloat
import Derived.Test.YtlhkbdeceogjgaaGreatDoorShelf
import Derived.Deep.QuietTactic
import Derived.BigQuiet
import Derived.Lib.Strings
import Derived.Lib.ParseIntB
import Derived.Lib.AtoiErrMem
namespace Go.Proofs.YtlhkbdeceogjgaaGreatDoor
open Go.RowKit Go
@[go_sem] theorem as_num_num (v : Value) (w : World) : (Instr.typeAssert (.iface 77 v) 20 77 true).run Tryz.prog w = .ok (.tuple #[v, .bool true]) w := by kernel_rfl
@[go_sem] theorem as_num_int (v : Value) (w : World) : (Instr.typeAssert (.iface 77 v) 20 3 true).run Tryz.prog w = .ok (.tuple #[.int .i64 0, .bool false]) w := by kernel_rfl
@[go_sem] theorem as_num_f64 (v : Value) (w : World) : (Instr.typeAssert (.iface 77 v) 20 22 true).run Tryz.prog w = .ok (.tuple #[.float .f64 0, .bool false]) w := by kernel_rfl
@[go_sem] theorem as_num_big (v : Value) (w : World) : (Instr.typeAssert (.iface 77 v) 20 91 true).run Tryz.prog w = .ok (.tuple #[.pointer none, .bool false]) w := by kernel_rfl
@[go_sem] theorem as_num_str (v : Value) (w : World) : (Instr.typeAssert (.iface 77 v) 20 9 true).run Tryz.prog w = .ok (.tuple #[.string ByteArray.empty, .bool false]) w := by kernel_rfl
@[go_sem] theorem as_num_arr (v : Value) (w : World) : (Instr.typeAssert (.iface 77 v) 20 68 true).run Tryz.prog w = .ok (.tuple #[.slice none 0 0, .bool false]) w := by kernel_rfl
@[go_sem] theorem as_num_map (v : Value) (w : World) : (Instr.typeAssert (.iface 77 v) 20 105 true).run Tryz.prog w = .ok (.tuple #[.map none, .bool false]) w := by kernel_rfl
@[go_sem] theorem as_num_bool (v : Value) (w : World) : (Instr.typeAssert (.iface 77 v) 20 4 true).run Tryz.prog w = .ok (.tuple #[.bool false, .bool false]) w := by kernel_rfl
def RetD (v : Value) (w : World) (e : Ending) (w' : World) : Prop := e = .returned v ∧ ∃ n, w' = w.drewN n
/-- It returns v; of what was there nothing has changed. -/
def RetB (v : Value) (w : World) (e : Ending) (w' : World) : Prop := e = .returned v ∧ Below w.heap.size w w'
theorem drew_more {w wr : World} (h : ∃ n, wr = w.drewN n) (m : Nat) : ∃ n, wr.drewN m = w.drewN n := by
  obtain ⟨n, rfl⟩ := h
  exact ⟨_, World.drewN_drewN _ _ _⟩
theorem ret_bool {b c : Bool} (h : b = c) : Ending.returned (.bool b) = .returned (.bool c) := by rw [h]
theorem below_drewN {B : Nat} {w w1 : World} (h : Below B w w1) (n : Nat) : Below B w (w1.drewN n) := h.trans ⟨rfl, rfl, rfl, Nat.le_refl _, fun _ _ => rfl⟩
/-! ### Ints -/
theorem zzCmpInt_any (a b : Int) (w : World) : Calls Tryz.prog 38 #[.int .i64 a, .int .i64 b] w (Ret (.int .i64 (cmpI a b)) w) := by
  by_cases h1 : a < b
  · have HC := Lib.hid (show cmpI a b = -1 from by unfold cmpI; rw [if_pos h1])
    go_enter Tryz.func38, Tryz.ntmps38
    go_wp2
    go_ret
    exact ⟨by rw [HC.out]; rfl, rfl⟩
  · by_cases h2 : b < a
    · have HC := Lib.hid (show cmpI a b = 1 from by unfold cmpI; rw [if_neg h1, if_pos h2])
      go_enter Tryz.func38, Tryz.ntmps38
      go_wp2
      go_ret
      exact ⟨by rw [HC.out]; rfl, rfl⟩
    · have HC := Lib.hid (show cmpI a b = 0 from by unfold cmpI; rw [if_neg h1, if_neg h2])
      go_enter Tryz.func38, Tryz.ntmps38
      go_wp2
      go_ret
      exact ⟨by rw [HC.out]; rfl, rfl⟩
theorem cmpII (a b : Int) (w : World) : Calls Tryz.prog 37 #[.int .i64 a, .int .i64 b] w (Ret (.int .i64 (cmpI a b)) w) := by
  go_enter Tryz.func37, Tryz.ntmps37
  go_wp2_with (go_at_call 62; refine (compare_ii _ _ _).mono ?_; rintro e w' ⟨rfl, rfl⟩)
  go_ret
  exact ⟨rfl, rfl⟩
theorem cmpIF (a : Int) (f : Nat) (w : World) : Calls Tryz.prog 39 #[.int .i64 a, .float .f64 f] w (Ret (.int .i64 (cmpF (floatOfInt .f64 a) f)) w) := by
  go_enter Tryz.func39, Tryz.ntmps39
  go_wp2_with (go_at_call 62; refine (compare_if _ _ _).mono ?_; rintro e w' ⟨rfl, rfl⟩)
  go_ret
  exact ⟨rfl, rfl⟩
theorem cmpFI (f : Nat) (a : Int) (w : World) : Calls Tryz.prog 41 #[.float .f64 f, .int .i64 a] w (Ret (.int .i64 (cmpF f (floatOfInt .f64 a))) w) := by
  go_enter Tryz.func41, Tryz.ntmps41
  go_wp2_with (go_at_call 62; refine (compare_fi _ _ _).mono ?_; rintro e w' ⟨rfl, rfl⟩)
  go_ret
  exact ⟨rfl, rfl⟩
theorem cmpSS (s t : ByteArray) (w : World) : Calls Tryz.prog 42 #[.string s, .string t] w (Ret (.int .i64 (cmpS s t)) w) := by
  go_enter Tryz.func42, Tryz.ntmps42
  go_wp2_with (go_at_call 62; refine (compare_ss _ _ _).mono ?_; rintro e w' ⟨rfl, rfl⟩)
  go_ret
  exact ⟨rfl, rfl⟩
/-! ### Floats -/
theorem f64_order (a b : Nat) : FloatKind.f64.format.order a b = Ieee.double.order a b := rfl
theorem self_order (y : Nat) (hy : y < 18446744073709551616) : (FloatKind.f64.format.order y y == some .eq) = true ∨ ∀ x, FloatKind.f64.format.order x y = none := by
  obtain ⟨s, r, rfl, h⟩ := word_split y hy
  by_cases e : r ≤ Ieee.double.infRung
  · left
    rw [f64_order, order_word s s r r e e]
    show (some (compareOfLessAndEq _ _) == some Ordering.eq) = true
    unfold compareOfLessAndEq
    rw [if_neg (Int.lt_irrefl _), if_pos rfl]
    rfl
  · right
    intro x
    exact order_nan_right (read_nan s r (by omega) h)
set_option maxRecDepth 100000 in
theorem zzCmpF_any (x y : Nat) (hy : y < 18446744073709551616) (w : World) : Calls Tryz.prog 40 #[.float .f64 x, .float .f64 y] w (Ret (.int .i64 (cmpF x y)) w) := by
  cases h1 : (FloatKind.f64.format.order x x != some .eq) with
  | true =>
    have HC := Lib.hid (show cmpF x y = -1 from by unfold cmpF ltF; rw [h1, Bool.or_true]; rfl)
    go_enter Tryz.func40, Tryz.ntmps40
    go_wp2
    go_ret
    exact ⟨by rw [HC.out]; rfl, rfl⟩
  | false =>
    cases h2 : (FloatKind.f64.format.order y y != some .eq) with
    | true =>
      have HC := Lib.hid (show cmpF x y = 1 from by
        rcases self_order y hy with e | e
        · simp only [bne] at h2; rw [e] at h2; simp at h2
        · unfold cmpF ltF; rw [h1, e x]; rfl)
      go_enter Tryz.func40, Tryz.ntmps40
      go_wp2
      go_ret
      exact ⟨by rw [HC.out]; rfl, rfl⟩
    | false =>
      cases h3 : (FloatKind.f64.format.order x y == some .lt) with
      | true =>
        have HC := Lib.hid (show cmpF x y = -1 from by unfold cmpF ltF; rw [h3, Bool.true_or]; rfl)
        go_enter Tryz.func40, Tryz.ntmps40
        go_wp2
        go_ret
        exact ⟨by rw [HC.out]; rfl, rfl⟩
      | false =>
        cases h4 : (FloatKind.f64.format.order x y == some .eq) with
        | true =>
          have HC := Lib.hid (show cmpF x y = 0 from by unfold cmpF ltF; rw [h3, h1, h4]; rfl)
          go_enter Tryz.func40, Tryz.ntmps40
          go_wp2
          go_ret
          exact ⟨by rw [HC.out]; rfl, rfl⟩
        | false =>
          have HC := Lib.hid (show cmpF x y = 1 from by unfold cmpF ltF; rw [h3, h1, h4]; rfl)
          go_enter Tryz.func40, Tryz.ntmps40
          go_wp2
          go_ret
          exact ⟨by rw [HC.out]; rfl, rfl⟩
theorem float_lt {x : Nat} (h : (Lit.float .f64 x).wf = true) : x < 18446744073709551616 := by simpa [Lit.wf] using h
theorem nearest_lt (n : Int) : floatOfInt .f64 n < 18446744073709551616 := by
  have := floatOfInt_wf .f64 n
  simpa [Lit.wf] using this
/-! ### Strings -/
/-- How a and b compare from place k on. -/
def cAt (a b : ByteArray) (k : Nat) : Int := if Op.bytesLess (a.data.toList.drop k) (b.data.toList.drop k) = true then -1 else if (a.data.toList.drop k == b.data.toList.drop k) = true then 0 else 1
theorem drop_at (a : ByteArray) (k : Nat) (h : k < a.size) : a.data.toList.drop k = a[k] :: a.data.toList.drop (k + 1) := by
  rw [List.drop_eq_getElem_cons (by simpa using h)]
  rfl
theorem cAt_zero (a b : ByteArray) : cAt a b 0 = cmpS a b := by unfold cAt cmpS; rw [List.drop_zero, List.drop_zero, Lib.toList_data, Lib.toList_data]
theorem cAt_lt (a b : ByteArray) (k : Nat) (h1 : k < a.size) (h2 : k < b.size) (h : a[k].toNat < b[k].toNat) : cAt a b k = -1 := by
  unfold cAt
  rw [drop_at a k h1, drop_at b k h2, Op.bytesLess]
  have : (a[k] < b[k]) = true := by simpa [UInt8.lt_iff_toNat_lt] using h
  simp [UInt8.lt_iff_toNat_lt, h]
theorem cAt_gt (a b : ByteArray) (k : Nat) (h1 : k < a.size) (h2 : k < b.size) (h : b[k].toNat < a[k].toNat) : cAt a b k = 1 := by
  unfold cAt
  rw [drop_at a k h1, drop_at b k h2, Op.bytesLess]
  have hn : ¬ a[k] < b[k] := by rw [UInt8.lt_iff_toNat_lt]; omega
  have hne : ¬ a[k] = b[k] := fun e => by rw [e] at h; omega
  simp [hn, hne]
theorem cAt_eq (a b : ByteArray) (k : Nat) (h1 : k < a.size) (h2 : k < b.size) (h : a[k].toNat = b[k].toNat) : cAt a b k = cAt a b (k + 1) := by
  have he : a[k] = b[k] := UInt8.toNat_inj.1 h
  unfold cAt
  rw [drop_at a k h1, drop_at b k h2, Op.bytesLess, he]
  simp
theorem cAt_end (a b : ByteArray) (k : Nat) (h : k = a.size ∨ k = b.size) (h1 : k ≤ a.size) (h2 : k ≤ b.size) : cAt a b k = if a.size < b.size then -1 else if b.size < a.size then 1 else 0 := by
  unfold cAt
  have la : a.data.toList.length = a.size := by simp
  have lb : b.data.toList.length = b.size := by simp
  rcases Nat.lt_trichotomy a.size b.size with e | e | e
  · obtain rfl : k = a.size := by omega
    have hr : (if a.size < b.size then (-1 : Int) else if b.size < a.size then 1 else 0) = -1 := by rw [if_pos e]
    rw [hr, List.drop_of_length_le (l := a.data.toList) (by omega), drop_at b _ e]
    simp [Op.bytesLess]
  · obtain rfl : k = a.size := by omega
    have hr : (if a.size < b.size then (-1 : Int) else if b.size < a.size then 1 else 0) = 0 := by rw [if_neg (by omega), if_neg (by omega)]
    rw [hr, List.drop_of_length_le (l := a.data.toList) (by omega), List.drop_of_length_le (l := b.data.toList) (by omega)]
    simp [Op.bytesLess]
  · obtain rfl : k = b.size := by omega
    have hr : (if a.size < b.size then (-1 : Int) else if b.size < a.size then 1 else 0) = 1 := by rw [if_neg (by omega), if_pos e]
    rw [hr, List.drop_of_length_le (l := b.data.toList) (by omega), drop_at a _ e]
    simp [Op.bytesLess]
set_option maxRecDepth 100000 in
set_option maxHeartbeats 1600000 in
theorem zzCmpBytes_any (a b : ByteArray) (ha : a.size ≤ 1048576) (hb : b.size ≤ 1048576) (w : World) : Calls Tryz.prog 43 #[.string a, .string b] w (RetD (.int .i64 (cmpS a b)) w) := by
  obtain ⟨n, hn⟩ : ∃ n, n = min a.size b.size := ⟨_, rfl⟩
  have hna : n ≤ a.size := by omega
  have hnb : n ≤ b.size := by omega
  have HN := Lib.hid hn
  have HZ := Lib.hid (cAt_zero a b)
  by_cases hab : b.size < a.size
  all_goals
    go_enter Tryz.func43, Tryz.ntmps43
    clear hn
    go_wp2
  · have hnn : n = b.size := by have := HN.out; omega
    rw [← hnn]
    have HX := Lib.hid hnn
    clear hnn
    go_loopw [6] (fun i wr => ∃ k : Nat, k ≤ n ∧ i = .int .i64 k ∧ Hid (cAt a b 0 = cAt a b k) ∧ Hid (∃ nq, wr = w.drewN nq)) (fun i _ => n - (intOf i).toNat)
    case atStart => exact ⟨0, Nat.zero_le _, rfl, rfl, ⟨0, rfl⟩⟩
    case round =>
      obtain ⟨k, hk, rfl, Hc, Hw⟩ := hrel
      by_cases hlt : k < n
      · have h1 : k < a.size := by omega
        have h2 : k < b.size := by omega
        rcases Nat.lt_trichotomy a[k].toNat b[k].toNat with e | e | e
        · have HS := Lib.hid (show cmpS a b = -1 from by rw [← HZ.out, Hc.out]; exact cAt_lt a b k h1 h2 e)
          have d1 : decide (a[k].toNat < b[k].toNat) = true := by simpa using e
          clear e
          go_wp2
          go_quiet (fail)
          go_wp2
          go_ret
          exact ⟨by rw [HS.out]; rfl, drew_more Hw.out _⟩
        · have HS := Lib.hid (show cAt a b 0 = cAt a b (k + 1) from by rw [Hc.out]; exact cAt_eq a b k h1 h2 e)
          have d1 : decide (a[k].toNat < b[k].toNat) = false := by rw [e]; simp
          have d2 : decide (b[k].toNat < a[k].toNat) = false := by rw [e]; simp
          clear e
          go_wp2
          go_quiet (fail)
          go_wp2
          go_quiet (fail)
          go_wp2
          go_roundw
          case rel => exact ⟨k + 1, by omega, by go_num, HS, Lib.hid (by first | exact drew_more Hw.out _ | (rw [World.drewN_drewN]; exact drew_more Hw.out _))⟩
          case measure => simp [intOf]; omega
        · have HS := Lib.hid (show cmpS a b = 1 from by rw [← HZ.out, Hc.out]; exact cAt_gt a b k h1 h2 e)
          have d1 : decide (a[k].toNat < b[k].toNat) = false := by simp; omega
          have d2 : decide (b[k].toNat < a[k].toNat) = true := by simpa using e
          clear e
          go_wp2
          go_quiet (fail)
          go_wp2
          go_quiet (fail)
          go_wp2
          go_ret
          exact ⟨by rw [HS.out]; rfl, by first | exact drew_more Hw.out _ | (rw [World.drewN_drewN]; exact drew_more Hw.out _)⟩
      · obtain rfl : k = n := by omega
        have HE := Lib.hid (show cmpS a b = if a.size < b.size then -1 else if b.size < a.size then 1 else 0 from by rw [← HZ.out, Hc.out]; exact cAt_end a b k (by have := HN.out; omega) hna hnb)
        have HS := Lib.hid (show cmpS a b = 1 from by rw [HE.out, if_neg (by omega), if_pos hab])
        go_wp2
        go_ret
        exact ⟨by rw [HS.out]; rfl, Hw.out⟩
  · have hnn : n = a.size := by have := HN.out; omega
    rw [← hnn]
    have HX := Lib.hid hnn
    clear hnn
    go_loopw [6] (fun i wr => ∃ k : Nat, k ≤ n ∧ i = .int .i64 k ∧ Hid (cAt a b 0 = cAt a b k) ∧ Hid (∃ nq, wr = w.drewN nq)) (fun i _ => n - (intOf i).toNat)
    case atStart => exact ⟨0, Nat.zero_le _, rfl, rfl, ⟨0, rfl⟩⟩
    case round =>
      obtain ⟨k, hk, rfl, Hc, Hw⟩ := hrel
      by_cases hlt : k < n
      · have h1 : k < a.size := by omega
        have h2 : k < b.size := by omega
        rcases Nat.lt_trichotomy a[k].toNat b[k].toNat with e | e | e
        · have HS := Lib.hid (show cmpS a b = -1 from by rw [← HZ.out, Hc.out]; exact cAt_lt a b k h1 h2 e)
          have d1 : decide (a[k].toNat < b[k].toNat) = true := by simpa using e
          clear e
          go_wp2
          go_quiet (fail)
          go_wp2
          go_ret
          exact ⟨by rw [HS.out]; rfl, drew_more Hw.out _⟩
        · have HS := Lib.hid (show cAt a b 0 = cAt a b (k + 1) from by rw [Hc.out]; exact cAt_eq a b k h1 h2 e)
          have d1 : decide (a[k].toNat < b[k].toNat) = false := by rw [e]; simp
          have d2 : decide (b[k].toNat < a[k].toNat) = false := by rw [e]; simp
          clear e
          go_wp2
          go_quiet (fail)
          go_wp2
          go_quiet (fail)
          go_wp2
          go_roundw
          case rel => exact ⟨k + 1, by omega, by go_num, HS, Lib.hid (by first | exact drew_more Hw.out _ | (rw [World.drewN_drewN]; exact drew_more Hw.out _))⟩
          case measure => simp [intOf]; omega
        · have HS := Lib.hid (show cmpS a b = 1 from by rw [← HZ.out, Hc.out]; exact cAt_gt a b k h1 h2 e)
          have d1 : decide (a[k].toNat < b[k].toNat) = false := by simp; omega
          have d2 : decide (b[k].toNat < a[k].toNat) = true := by simpa using e
          clear e
          go_wp2
          go_quiet (fail)
          go_wp2
          go_quiet (fail)
          go_wp2
          go_ret
          exact ⟨by rw [HS.out]; rfl, by first | exact drew_more Hw.out _ | (rw [World.drewN_drewN]; exact drew_more Hw.out _)⟩
      · obtain rfl : k = n := by omega
        have HE := Lib.hid (show cmpS a b = if a.size < b.size then -1 else if b.size < a.size then 1 else 0 from by rw [← HZ.out, Hc.out]; exact cAt_end a b k (by have := HN.out; omega) hna hnb)
        by_cases hab2 : a.size < b.size
        · have HS := Lib.hid (show cmpS a b = -1 from by rw [HE.out, if_pos hab2])
          go_wp2
          go_ret
          exact ⟨by rw [HS.out]; rfl, Hw.out⟩
        · have HS := Lib.hid (show cmpS a b = 0 from by rw [HE.out, if_neg hab2, if_neg hab])
          go_wp2
          go_ret
          exact ⟨by rw [HS.out]; rfl, Hw.out⟩
/-! ### Numbers written out -/
theorem dig_toNat (d : Nat) (h : d < 10) : (UInt8.ofNat (48 + d)).toNat = 48 + d := by simp; omega
theorem parse_digits : ∀ (u : Nat) (r : List UInt8), u ≤ 18446744073709551615 → Lib.parseUintM 18446744073709551615 0 (Lib.decDigits u ++ r) = Lib.parseUintM 18446744073709551615 u r := by
  intro u
  induction u using Nat.strongRecOn with
  | _ u ih =>
    intro r hu
    rw [Lib.decDigits]
    by_cases h : u < 10
    · rw [dif_pos h, List.singleton_append, Lib.parseUintM, dig_toNat u h, if_pos (by omega), if_neg (by omega), if_neg (by omega)]
      congr 1
      omega
    · rw [dif_neg h, List.append_assoc, ih (u / 10) (by omega) _ (by omega), List.singleton_append, Lib.parseUintM, dig_toNat (u % 10) (by omega), if_pos (by omega), if_neg (by omega), if_neg (by omega)]
      congr 1
      omega
theorem digits_ne (u : Nat) : Lib.decDigits u ≠ [] := by
  intro e
  have := congrArg List.length e
  rw [Lib.decDigits_length, Lib.nDigits] at this
  split at this <;> simp at this
theorem digits_mem : ∀ (u : Nat) (c : UInt8), c ∈ Lib.decDigits u → 48 ≤ c.toNat ∧ c.toNat ≤ 57 := by
  intro u
  induction u using Nat.strongRecOn with
  | _ u ih =>
    intro c hc
    rw [Lib.decDigits] at hc
    by_cases h : u < 10
    · rw [dif_pos h] at hc
      rw [List.mem_singleton.1 hc, dig_toNat u h]; omega
    · rw [dif_neg h, List.mem_append] at hc
      rcases hc with hc | hc
      · exact ih (u / 10) (by omega) c hc
      · rw [List.mem_singleton.1 hc, dig_toNat (u % 10) (by omega)]; omega
theorem parse_uint (u : Nat) (h : u ≤ 18446744073709551615) : Lib.parseUintB 64 (Lib.decDigits u) = .ok u := by
  unfold Lib.parseUintB
  rw [if_neg (digits_ne u)]
  have := parse_digits u [] h
  rw [List.append_nil] at this
  exact this
theorem parse_itoa (a : Int) (h : -9223372036854775808 ≤ a ∧ a ≤ 9223372036854775807) : Lib.parseIntB 64 (Lib.itoa a) = .ok a := by
  have p63 : (2 : Nat) ^ (64 - 1) = 9223372036854775808 := by decide
  unfold Lib.itoa
  by_cases hn : a < 0
  · rw [if_pos hn]
    have hu := parse_uint a.natAbs (by omega)
    unfold Lib.parseIntB
    have e45 : (45 : UInt8).toNat = 45 := rfl
    simp only [e45, or_true, if_true, hu, p63]
    rw [if_neg (by simp), if_neg (by omega)]
    congr 1
    omega
  · rw [if_neg hn]
    have hu := parse_uint a.toNat (by omega)
    have hm := digits_mem a.toNat
    have hne := digits_ne a.toNat
    generalize Lib.decDigits a.toNat = l at hu hm hne
    match l, hne with
    | c :: r, _ =>
      have hc := hm c (by simp)
      unfold Lib.parseIntB
      have h1 : ¬ (c.toNat = 43 ∨ c.toNat = 45) := by omega
      have h2 : ¬ c.toNat = 45 := by omega
      simp only [if_neg h1, hu, p63, if_neg h2]
      rw [if_neg (by omega), if_neg (by omega)]
      congr 1
      omega
theorem itoa_size (a : Int) (h : -9223372036854775808 ≤ a ∧ a ≤ 9223372036854775807) : (⟨(Lib.itoa a).toArray⟩ : ByteArray).size ≤ 21 := by
  have := Lib.itoa_length_le a h.1 h.2
  simpa [ByteArray.size] using this
set_option maxRecDepth 100000 in
set_option maxHeartbeats 800000 in
theorem parseNumber_any (s : ByteArray) (v : Int) (hs : s.size ≤ 9223372036854775806) (h : Lib.parseIntB 64 s.data.toList = .ok v) (hv : -9223372036854775808 ≤ v ∧ v ≤ 9223372036854775807) (w : World) :
    Calls Tryz.prog 108 #[.string s] w (RetB (.iface 3 (.int .i64 v)) w) := by
  have HP := Lib.hid h
  clear h
  have hw := IntWalk.i64_in v hv
  go_enter Tryz.func108, Tryz.ntmps108
  go_wp2_with (go_at_call 126; go_in)
  refine (Tryz.strconv_ParseInt_10_at64_ok s hs v HP.out _).mono ?_
  rintro e w1 ⟨rfl, hw1⟩
  have hb : Below w.heap.size w w1 := by
    rcases hw1 with rfl | ⟨t, rfl⟩
    · exact Below.refl _ _
    · exact Lib.bytesWorld_below _ _ _
  have HB := Lib.hid hb
  clear hw1 hb
  go_wp2
  go_ret
  exact ⟨rfl, HB.out⟩
set_option maxRecDepth 100000 in
set_option maxHeartbeats 800000 in
theorem zz_ni (s : ByteArray) (v b : Int) (hs : s.size ≤ 9223372036854775806) (h : Lib.parseIntB 64 s.data.toList = .ok v) (hv : -9223372036854775808 ≤ v ∧ v ≤ 9223372036854775807) (w : World) :
    Calls Tryz.prog 44 #[.string s, .int .i64 b] w (RetB (.int .i64 (cmpI v b)) w) := by
  have HP := Lib.hid h
  clear h
  go_enter Tryz.func44, Tryz.ntmps44
  go_wp2_with (first | (go_at_call 62; go_in) | (go_at_call 81; go_in) | (go_at_call 108; refine (parseNumber_any s v hs HP.out hv _).mono ?_; rintro e w1 ⟨rfl, hb⟩) | (go_at_call 82; refine (cmpInt_any _ _ _).mono ?_; rintro e w' ⟨rfl, rfl⟩))
  go_ret
  exact ⟨rfl, hb⟩
set_option maxRecDepth 100000 in
theorem zzBytes_any (a b : Int) (f : Nat) (s t : ByteArray) (hs : s.size ≤ 9223372036854775807) (ht : t.size ≤ 9223372036854775807) (w : World) :
    Calls Tryz.prog 36 #[.int .i64 a, .int .i64 b, .float .f64 f, .string s, .string t] w (Ret (.bool (decide (s.size + t.size ≤ 1048576))) w) := by
  by_cases h1 : s.size ≤ 1048576
  · by_cases h2 : t.size ≤ 1048576
    · by_cases h3 : s.size + t.size ≤ 1048576
      · go_enter Tryz.func36, Tryz.ntmps36
        go_wp2
        go_ret
        exact ⟨ret_bool (by simp [h3]), rfl⟩
      · have h3' : 1048576 < s.size + t.size := by omega
        go_enter Tryz.func36, Tryz.ntmps36
        go_wp2
        go_ret
        exact ⟨ret_bool (by simp [h3]), rfl⟩
    · have h2' : 1048576 < t.size := by omega
      go_enter Tryz.func36, Tryz.ntmps36
      go_wp2
      go_ret
      exact ⟨ret_bool (by simp; omega), rfl⟩
  · have h1' : 1048576 < s.size := by omega
    go_enter Tryz.func36, Tryz.ntmps36
    go_wp2
    go_ret
    exact ⟨ret_bool (by simp; omega), rfl⟩
theorem zzBytes_yes (a b : Int) (f : Nat) (s t : ByteArray) (h : s.size + t.size ≤ 1048576) (w : World) :
    Calls Tryz.prog 36 #[.int .i64 a, .int .i64 b, .float .f64 f, .string s, .string t] w (Ret (.bool true) w) :=
  (zzBytes_any a b f s t (by omega) (by omega) w).mono fun _ _ ⟨h1, h2⟩ => ⟨by rw [h1, decide_eq_true h], h2⟩
theorem bne_same (a : Int) : (a != a) = false := by simp
set_option maxRecDepth 100000 in
set_option maxHeartbeats 1600000 in
theorem lawDispatch (a b : Int) (f : Nat) (s t : ByteArray) (ha : -9223372036854775808 ≤ a ∧ a ≤ 9223372036854775807) (hf : f < 18446744073709551616) (hs : s.size ≤ 9223372036854775807) (ht : t.size ≤ 9223372036854775807) (w : World) :
    Calls Tryz.prog 10 #[.int .i64 a, .int .i64 b, .float .f64 f, .string s, .string t] w (RetB (.bool true) w) := by
  by_cases h3 : s.size + t.size ≤ 1048576
  · have b1 := bne_same (cmpI a b)
    have b2 := bne_same (cmpF (floatOfInt .f64 a) f)
    have b3 := bne_same (cmpF f (floatOfInt .f64 a))
    have b4 := bne_same (cmpS s t)
    go_enter Tryz.func10, Tryz.ntmps10
    go_wp2_with (first | (go_at_call 36; refine (zzBytes_yes _ _ _ _ _ h3 _).mono ?_; rintro e w' ⟨rfl, rfl⟩) | (go_at_call 37; refine (cmpII _ _ _).mono ?_; rintro e w' ⟨rfl, rfl⟩) | (go_at_call 38; refine (zzCmpInt_any _ _ _).mono ?_; rintro e w' ⟨rfl, rfl⟩) | (go_at_call 39; refine (cmpIF _ _ _).mono ?_; rintro e w' ⟨rfl, rfl⟩) | (go_at_call 41; refine (cmpFI _ _ _).mono ?_; rintro e w' ⟨rfl, rfl⟩) | (go_at_call 40; refine (zzCmpF_any _ _ (by first | exact hf | exact nearest_lt _) _).mono ?_; rintro e w' ⟨rfl, rfl⟩) | (go_at_call 42; refine (cmpSS _ _ _).mono ?_; rintro e w' ⟨rfl, rfl⟩) | (go_at_call 43; refine (zzCmpBytes_any _ _ (by omega) (by omega) _).mono ?_; rintro e w' ⟨rfl, nq, rfl⟩))
    refine (zzItoa_any a ha _).mono ?_
    rintro e w1 ⟨rfl, hb1⟩
    have HB1 := Lib.hid hb1
    clear hb1
    go_wp2_with fail
    refine (zz_ni _ a b (by have := itoa_size a ha; omega) (by simpa using parse_itoa a ha) ha _).mono ?_
    rintro e w2 ⟨rfl, hb2⟩
    have HB2 := Lib.hid hb2
    clear hb2
    go_wp2_with (go_at_call 38; refine (zzCmpInt_any _ _ _).mono ?_; rintro e w' ⟨rfl, rfl⟩)
    go_ret
    exact ⟨ret_bool (by simp), (below_drewN (Below.refl _ _) nq).trans (HB1.out.trans (HB2.out.mono HB1.out.size))⟩
  · have h3' : 1048576 < s.size + t.size := by omega
    have hd : decide (s.size + t.size ≤ 1048576) = false := decide_eq_false h3
    go_enter Tryz.func10, Tryz.ntmps10
    go_wp2_with (go_at_call 36; refine (zzBytes_any _ _ _ _ _ hs ht _).mono ?_; rintro e w' ⟨rfl, rfl⟩)
    go_ret
    exact ⟨rfl, Below.refl _ _⟩
end Go.Proofs.YtlhkbdeceogjgaaGreatDoor
