/- Unary plus against adding zero: the law walked. Conditions: none. -/
import Derived.Test.YtlhkbdeceogjgaaGreatDoorBits
import Derived.Test.YtlhkbdeceogjgaaGreatDoorFloatSum
import Derived.Test.YtlhkbdeceogjgaaGreatDoorProg
import Derived.WalkKit
import Derived.WalkLawsBesides
import Derived.WalkSpells
import Derived.Lib.Hide
import Derived.Below
namespace Go.Proofs.YtlhkbdeceogjgaaGreatDoor
open Go.RowKit Go
def Ret (v : Value) (w : World) (e : Ending) (w' : World) : Prop := e = .returned v ∧ w = w'
def RetD (v : Value) (w : World) (e : Ending) (w' : World) : Prop := e = .returned v ∧ ∃ n, w' = w.drewN n
theorem retD_below {v : Value} {w : World} {e : Ending} {w' : World} (h : RetD v w e w') : e = .returned v ∧ Below w.heap.size w w' := by
  obtain ⟨he, n, rfl⟩ := h
  exact ⟨he, (Below.refl _ _).trans ⟨rfl, rfl, rfl, Nat.le_refl _, fun _ _ => rfl⟩⟩
theorem ret_bool {b c : Bool} (h : b = c) : Ending.returned (.bool b) = .returned (.bool c) := by rw [h]
@[go_sem] theorem as_int_num (v : Value) (w : World) : (Instr.typeAssert (.iface 3 v) 20 77 true).run Tryz.prog w = .ok (.tuple #[.string ByteArray.empty, .bool false]) w := by kernel_rfl
@[go_sem] theorem as_int_int (v : Value) (w : World) : (Instr.typeAssert (.iface 3 v) 20 3 true).run Tryz.prog w = .ok (.tuple #[v, .bool true]) w := by kernel_rfl
@[go_sem] theorem as_int_f64 (v : Value) (w : World) : (Instr.typeAssert (.iface 3 v) 20 22 true).run Tryz.prog w = .ok (.tuple #[.float .f64 0, .bool false]) w := by kernel_rfl
@[go_sem] theorem as_int_big (v : Value) (w : World) : (Instr.typeAssert (.iface 3 v) 20 91 true).run Tryz.prog w = .ok (.tuple #[.pointer none, .bool false]) w := by kernel_rfl
@[go_sem] theorem as_int_str (v : Value) (w : World) : (Instr.typeAssert (.iface 3 v) 20 9 true).run Tryz.prog w = .ok (.tuple #[.string ByteArray.empty, .bool false]) w := by kernel_rfl
@[go_sem] theorem as_int_arr (v : Value) (w : World) : (Instr.typeAssert (.iface 3 v) 20 68 true).run Tryz.prog w = .ok (.tuple #[.slice none 0 0, .bool false]) w := by kernel_rfl
@[go_sem] theorem as_int_map (v : Value) (w : World) : (Instr.typeAssert (.iface 3 v) 20 105 true).run Tryz.prog w = .ok (.tuple #[.map none, .bool false]) w := by kernel_rfl
@[go_sem] theorem as_int_bool (v : Value) (w : World) : (Instr.typeAssert (.iface 3 v) 20 4 true).run Tryz.prog w = .ok (.tuple #[.bool false, .bool false]) w := by kernel_rfl
@[go_sem] theorem as_f64_num (v : Value) (w : World) : (Instr.typeAssert (.iface 22 v) 20 77 true).run Tryz.prog w = .ok (.tuple #[.string ByteArray.empty, .bool false]) w := by kernel_rfl
@[go_sem] theorem as_f64_int (v : Value) (w : World) : (Instr.typeAssert (.iface 22 v) 20 3 true).run Tryz.prog w = .ok (.tuple #[.int .i64 0, .bool false]) w := by kernel_rfl
@[go_sem] theorem as_f64_f64 (v : Value) (w : World) : (Instr.typeAssert (.iface 22 v) 20 22 true).run Tryz.prog w = .ok (.tuple #[v, .bool true]) w := by kernel_rfl
@[go_sem] theorem as_f64_big (v : Value) (w : World) : (Instr.typeAssert (.iface 22 v) 20 91 true).run Tryz.prog w = .ok (.tuple #[.pointer none, .bool false]) w := by kernel_rfl
@[go_sem] theorem as_f64_str (v : Value) (w : World) : (Instr.typeAssert (.iface 22 v) 20 9 true).run Tryz.prog w = .ok (.tuple #[.string ByteArray.empty, .bool false]) w := by kernel_rfl
@[go_sem] theorem as_f64_arr (v : Value) (w : World) : (Instr.typeAssert (.iface 22 v) 20 68 true).run Tryz.prog w = .ok (.tuple #[.slice none 0 0, .bool false]) w := by kernel_rfl
@[go_sem] theorem as_f64_map (v : Value) (w : World) : (Instr.typeAssert (.iface 22 v) 20 105 true).run Tryz.prog w = .ok (.tuple #[.map none, .bool false]) w := by kernel_rfl
@[go_sem] theorem as_f64_bool (v : Value) (w : World) : (Instr.typeAssert (.iface 22 v) 20 4 true).run Tryz.prog w = .ok (.tuple #[.bool false, .bool false]) w := by kernel_rfl
theorem nan_cut (x y t : Nat) : ∃ s r, 9218868437227405312 < r ∧ r < 9223372036854775808 ∧ Question.cut (.nanBits .f64 x y) t = Ieee.double.word s r := by
  refine ⟨decide (t % 2 = 1), 9218868437227405312 + 1 + (t / 2) % (2 ^ 52 - 1), by omega, ?_, ?_⟩
  · have : (t / 2) % (2 ^ 52 - 1) < 2 ^ 52 - 1 := Nat.mod_lt _ (by decide)
    have e : (2 : Nat) ^ 52 - 1 = 4503599627370495 := by decide
    omega
  · rw [word_nat]
    show (t % 2) * 2 ^ 63 + 0x7ff0000000000000 + 1 + (t / 2) % (2 ^ 52 - 1) = _
    have e : (2 : Nat) ^ 63 = 9223372036854775808 := by decide
    rw [e]
    by_cases h : t % 2 = 1
    · rw [decide_eq_true h, h]; simp <;> omega
    · have h' : t % 2 = 0 := by omega
      rw [decide_eq_false h, h']; simp <;> omega
theorem run_add_nan {P : Program} (x y : Nat) (h : Ieee.double.add x y = none) (t : TypeId) (w : World) :
    (binOp .add t (.float .f64 x) (.float .f64 y)).run P w = .ok (.float .f64 (Question.cut (.nanBits .f64 x y) (w.tape w.drawn (.nanBits .f64 x y)))) w.drew := by
  have h' : FloatKind.f64.format.add x y = none := h
  simp [binOp, Op.floatArith, h', Question.forced]
theorem zero_float : floatOfInt .f64 0 = 0 := by decide
theorem plus_int (n : Int) (w : World) : Calls Tryz.prog 24 #[.int .i64 n] w (Ret (.tuple #[.int .i64 n, .bool true]) w) := by
  go_enter Tryz.func24, Tryz.ntmps24
  go_wp2_with (go_at_call 57; go_in)
  go_ret2
  exact ⟨rfl, rfl⟩
theorem plus_float (x : Nat) (w : World) : Calls Tryz.prog 26 #[.float .f64 x] w (Ret (.tuple #[.float .f64 x, .bool true]) w) := by
  go_enter Tryz.func26, Tryz.ntmps26
  go_wp2_with (go_at_call 57; go_in)
  go_ret2
  exact ⟨rfl, rfl⟩
set_option maxRecDepth 100000 in
theorem add_i0 (n : Int) (hn : -9223372036854775808 ≤ n ∧ n ≤ 9223372036854775807) (w : World) : Calls Tryz.prog 25 #[.int .i64 n, .int .i64 0] w (Ret (.tuple #[.int .i64 n, .bool true]) w) := by
  have h1 : IntKind.i64.wrap n = n := IntWalk.i64_in _ hn
  go_enter Tryz.func25, Tryz.ntmps25
  go_wp2_with (first | (go_at_call 58; go_in) | (go_at_call 70; go_in) | (go_at_call 71; go_in))
  go_ret2
  exact ⟨rfl, rfl⟩
set_option maxRecDepth 100000 in
theorem add_0i (n : Int) (hn : -9223372036854775808 ≤ n ∧ n ≤ 9223372036854775807) (w : World) : Calls Tryz.prog 25 #[.int .i64 0, .int .i64 n] w (Ret (.tuple #[.int .i64 n, .bool true]) w) := by
  have h1 : IntKind.i64.wrap n = n := IntWalk.i64_in _ hn
  go_enter Tryz.func25, Tryz.ntmps25
  go_wp2_with (first | (go_at_call 58; go_in) | (go_at_call 70; go_in) | (go_at_call 71; go_in))
  go_ret2
  exact ⟨rfl, rfl⟩
set_option maxRecDepth 100000 in
theorem add_f0 (x y : Nat) (h : Ieee.double.add x 0 = some y) (w : World) : Calls Tryz.prog 27 #[.float .f64 x, .int .i64 0] w (Ret (.tuple #[.float .f64 y, .bool true]) w) := by
  have hz := zero_float
  have hop : ∀ t w, (binOp .add t (.float .f64 x) (.float .f64 0)).run Tryz.prog w = .ok (.float .f64 y) w := fun t w => run_float_arith w .add t .f64 _ _ _ h
  go_enter Tryz.func27, Tryz.ntmps27
  go_wp2_with (first | (go_at_call 58; go_in) | (go_at_call 70; go_in) | (go_at_call 74; go_in))
  go_ret2
  exact ⟨rfl, rfl⟩
set_option maxRecDepth 100000 in
theorem add_f0_nan (x : Nat) (h : Ieee.double.add x 0 = none) (w : World) : Calls Tryz.prog 27 #[.float .f64 x, .int .i64 0] w fun e w' => ∃ s r, 9218868437227405312 < r ∧ r < 9223372036854775808 ∧ RetD (.tuple #[.float .f64 (Ieee.double.word s r), .bool true]) w e w' := by
  have hz := zero_float
  obtain ⟨N, hN, hN2⟩ : ∃ N : World → Nat, (∀ (t : TypeId) (w : World), (binOp .add t (.float .f64 x) (.float .f64 0)).run Tryz.prog w = .ok (.float .f64 (N w)) w.drew) ∧ ∀ w, ∃ s r, 9218868437227405312 < r ∧ r < 9223372036854775808 ∧ N w = Ieee.double.word s r :=
    ⟨fun w => Question.cut (.nanBits .f64 x 0) (w.tape w.drawn (.nanBits .f64 x 0)), fun t w => run_add_nan x 0 h t w, fun w => nan_cut x 0 _⟩
  have HN := Lib.hid hN2
  clear hN2
  go_enter Tryz.func27, Tryz.ntmps27
  go_wp2_with (first | (go_at_call 58; go_in) | (go_at_call 70; go_in) | (go_at_call 74; go_in))
  go_ret2
  obtain ⟨s, r, h1, h2, h3⟩ := HN.out w
  exact ⟨s, r, h1, h2, by rw [h3]; rfl, 1, rfl⟩
/-- What a number and zero add up to, as the law compares it. -/
theorem add_zero_all (s : Bool) (r : Nat) (h : r ≤ 9218868437227405312) : ∃ y, Ieee.double.add (Ieee.double.word s r) 0 = some y ∧ (FloatKind.f64.format.order y (Ieee.double.word s r) == some .eq) = true := by
  by_cases e : r = 0
  · subst e
    refine ⟨0, add_zero_zero s, ?_⟩
    cases s <;> decide
  · by_cases e2 : r = 9218868437227405312
    · subst e2
      exact ⟨_, add_zero_inf s, eq_self s _ (by omega)⟩
    · exact ⟨_, add_zero_finite s r (by omega) (by rw [d_inf]; omega), eq_self s _ (by omega)⟩
set_option maxRecDepth 100000 in
set_option maxHeartbeats 1600000 in
theorem lawPlus (n : Int) (x : Nat) (hn : -9223372036854775808 ≤ n ∧ n ≤ 9223372036854775807) (hx : x < 18446744073709551616) (w : World) :
    Calls Tryz.prog 7 #[.int .i64 n, .float .f64 x] w (RetD (.bool true) w) := by
  obtain ⟨s, r, rfl, h⟩ := word_split x hx
  have hne := ne_self s r h
  by_cases e : 9218868437227405312 < r
  · rw [decide_eq_true e] at hne
    have ha := add_f0_nan (Ieee.double.word s r) (add_nan s r 0 e h)
    generalize Ieee.double.word s r = X at *
    go_enter Tryz.func7, Tryz.ntmps7
    go_wp2_with (go_at_call 24; refine (plus_int _ _).mono ?_; rintro e w' ⟨rfl, rfl⟩)
    refine (add_i0 n hn _).mono ?_
    rintro e w' ⟨rfl, rfl⟩
    go_wp2_with fail
    refine (add_0i n hn _).mono ?_
    rintro e w' ⟨rfl, rfl⟩
    go_wp2_with (first | (go_at_call 26; refine (plus_float _ _).mono ?_; rintro e w' ⟨rfl, rfl⟩))
    refine (ha _).mono ?_
    rintro e w1 ⟨s', r', h1, h2, rfl, nq, rfl⟩
    have hn2 := ne_self s' r' h2
    rw [decide_eq_true h1] at hn2
    generalize Ieee.double.word s' r' = Y at *
    go_wp2
    go_ret
    exact ⟨ret_bool (by first | rfl | simp [hn2] | exact hn2), nq, rfl⟩
  · rw [decide_eq_false e] at hne
    obtain ⟨y, hy1, hy2⟩ := add_zero_all s r (by omega)
    have ha := add_f0 (Ieee.double.word s r) y hy1
    clear hy1
    generalize Ieee.double.word s r = X at *
    go_enter Tryz.func7, Tryz.ntmps7
    go_wp2_with (go_at_call 24; refine (plus_int _ _).mono ?_; rintro e w' ⟨rfl, rfl⟩)
    refine (add_i0 n hn _).mono ?_
    rintro e w' ⟨rfl, rfl⟩
    go_wp2_with fail
    refine (add_0i n hn _).mono ?_
    rintro e w' ⟨rfl, rfl⟩
    go_wp2_with (first | (go_at_call 26; refine (plus_float _ _).mono ?_; rintro e w' ⟨rfl, rfl⟩) | (go_at_call 27; refine (ha _).mono ?_; rintro e w' ⟨rfl, rfl⟩))
    go_ret
    exact ⟨ret_bool (by first | rfl | simp [hy2] | exact hy2), 0, rfl⟩
end Go.Proofs.YtlhkbdeceogjgaaGreatDoor
