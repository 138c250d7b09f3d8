/- math.Frexp's parts, and the law's own way of finding the same, walked; the law on frexp. Conditions: none. -/
import Derived.Test.YtlhkbdeceogjgaaGreatDoorBits
import Derived.Test.YtlhkbdeceogjgaaGreatDoorProg
import Derived.WalkKit
import Derived.WalkLawsBesides
import Derived.WalkSpells
import Derived.Lib.Hide
import Derived.Laws.Externs
import Derived.Below
namespace Go.Proofs.YtlhkbdeceogjgaaGreatDoor
open Go.RowKit Go
def Ret (v : Value) (w : World) (e : Ending) (w' : World) : Prop := e = .returned v ∧ w = w'
@[go_sem] theorem as_arr_arr (v : Value) (w : World) : (Instr.typeAssert (.iface 68 v) 20 68 true).run Tryz.prog w = .ok (.tuple #[v, .bool true]) w := by kernel_rfl
@[go_sem] theorem as_f64_f64 (v : Value) (w : World) : (Instr.typeAssert (.iface 22 v) 20 22 true).run Tryz.prog w = .ok (.tuple #[v, .bool true]) w := by kernel_rfl
@[go_sem] theorem as_int_int (v : Value) (w : World) : (Instr.typeAssert (.iface 3 v) 20 3 true).run Tryz.prog w = .ok (.tuple #[v, .bool true]) w := by kernel_rfl
@[go_sem] theorem as_f64_int (v : Value) (w : World) : (Instr.typeAssert (.iface 22 v) 20 3 true).run Tryz.prog w = .ok (.tuple #[.int .i64 0, .bool false]) w := by kernel_rfl
@[go_sem] theorem unary_neg_float (k : FloatKind) (n : Nat) : Op.unary .neg (.float k n) = pure (.float k (Op.negFloat k n)) := rfl
theorem ret_bool {b c : Bool} (h : b = c) : Ending.returned (.bool b) = .returned (.bool c) := by rw [h]
@[go_sem] theorem run_f64bits (b : Nat) (w : World) : (callFunc 98 #[.float .f64 b]).run Tryz.prog w = .ok (.value (.int .u64 b)) w := by
  rw [run_callFunc_extern Tryz.func98 (by kernel_rfl) (by kernel_rfl) (by kernel_rfl) (e := Extern.MathFloatBits.float64bits) (by kernel_rfl)]
  rfl
@[go_sem] theorem run_f64frombits (n : Int) (w : World) : (callFunc 97 #[.int .u64 n]).run Tryz.prog w = .ok (.value (.float .f64 n.toNat)) w := by
  rw [run_callFunc_extern Tryz.func97 (by kernel_rfl) (by kernel_rfl) (by kernel_rfl) (e := Extern.MathFloatBits.float64frombits) (by kernel_rfl)]
  rfl
theorem abs_any (s : Bool) (r : Nat) (h : r < 9223372036854775808) (w : World) : Calls Tryz.prog 96 #[.float .f64 (Ieee.double.word s r)] w (Ret (.float .f64 r) w) := by
  have hb := abs_bits s r h
  generalize Ieee.double.word s r = X at *
  go_enter Tryz.func96, Tryz.ntmps96
  go_wp2
  go_ret
  exact ⟨by first | rfl | simp, rfl⟩
theorem isInf_any (s : Bool) (r : Nat) (h : r < 9223372036854775808) (w : World) : Calls Tryz.prog 66 #[.float .f64 (Ieee.double.word s r), .int .i64 0] w (Ret (.bool (decide (r = 9218868437227405312))) w) := by
  have hg := gt_max r h
  have ha := abs_any s r h
  generalize Ieee.double.word s r = X at *
  go_enter Tryz.func66, Tryz.ntmps66
  go_wp2_with (go_at_call 96; refine (ha _).mono ?_; rintro e w' ⟨rfl, rfl⟩)
  go_ret
  exact ⟨ret_bool (by first | rfl | exact hg), rfl⟩
theorem isNaN_any (s : Bool) (r : Nat) (h : r < 9223372036854775808) (w : World) : Calls Tryz.prog 113 #[.float .f64 (Ieee.double.word s r)] w (Ret (.bool (decide (9218868437227405312 < r))) w) := by
  have hg := ne_self s r h
  generalize Ieee.double.word s r = X at *
  go_enter Tryz.func113, Tryz.ntmps113
  go_wp2
  go_ret
  exact ⟨ret_bool (by first | rfl | exact hg), rfl⟩
theorem zzIsNaN_any (s : Bool) (r : Nat) (h : r < 9223372036854775808) (w : World) : Calls Tryz.prog 13 #[.float .f64 (Ieee.double.word s r)] w (Ret (.bool (decide (9218868437227405312 < r))) w) := by
  have hg := ne_self s r h
  generalize Ieee.double.word s r = X at *
  go_enter Tryz.func13, Tryz.ntmps13
  go_wp2
  go_ret
  exact ⟨ret_bool (by first | rfl | exact hg), rfl⟩
theorem zzIsInf_any (s : Bool) (r : Nat) (h : r < 9223372036854775808) (w : World) : Calls Tryz.prog 14 #[.float .f64 (Ieee.double.word s r)] w (Ret (.bool (decide (r = 9218868437227405312))) w) := by
  have hg := out_of_range s r h
  generalize Ieee.double.word s r = X at *
  cases h1 : (FloatKind.f64.format.order X 9218868437227405311 == some .gt)
  · go_enter Tryz.func14, Tryz.ntmps14
    go_wp2
    go_ret
    exact ⟨ret_bool (by rw [← hg, h1]; simp), rfl⟩
  · go_enter Tryz.func14, Tryz.ntmps14
    go_wp2
    go_ret
    exact ⟨ret_bool (by rw [← hg, h1]; simp), rfl⟩
theorem div_one_zero (s : Bool) : Ieee.double.div 4607182418800017408 (Ieee.double.word s 0) = some (Ieee.double.word s 9218868437227405312) := by cases s <;> decide
theorem zzSignBit_any (s : Bool) (r : Nat) (h : r ≤ 9218868437227405312) (w : World) : Calls Tryz.prog 18 #[.float .f64 (Ieee.double.word s r)] w (Ret (.bool s) w) := by
  have h1 := lt_zero s r h
  have h2 := eq_zero s r h
  by_cases e : r = 0
  · subst e
    have h3 := lt_zero s 9218868437227405312 (by omega)
    have hq : ∀ t w, (binOp .quo t (.float .f64 4607182418800017408) (.float .f64 (Ieee.double.word s 0))).run Tryz.prog w = .ok (.float .f64 (Ieee.double.word s 9218868437227405312)) w := fun t w => run_float_arith w .quo t .f64 _ _ _ (div_one_zero s)
    rw [decide_eq_false (by omega), Bool.and_false] at h1
    rw [decide_eq_true rfl] at h2
    rw [decide_eq_true (by omega), Bool.and_true] at h3
    generalize Ieee.double.word s 0 = X at *
    generalize Ieee.double.word s 9218868437227405312 = Y at *
    go_enter Tryz.func18, Tryz.ntmps18
    go_wp2
    go_ret
    exact ⟨ret_bool (by first | rfl | exact h3), rfl⟩
  · rw [decide_eq_true (by omega), Bool.and_true] at h1
    rw [decide_eq_false e] at h2
    generalize Ieee.double.word s r = X at *
    cases s
    · go_enter Tryz.func18, Tryz.ntmps18
      go_wp2
      go_ret
      exact ⟨rfl, rfl⟩
    · go_enter Tryz.func18, Tryz.ntmps18
      go_wp2
      go_ret
      exact ⟨rfl, rfl⟩
/-- zzSame on one number twice. -/
theorem zzSame_self (s : Bool) (r : Nat) (h : r ≤ 9218868437227405312) (w : World) : Calls Tryz.prog 15 #[.float .f64 (Ieee.double.word s r), .float .f64 (Ieee.double.word s r)] w (Ret (.bool true) w) := by
  have h1 := zzIsNaN_any s r (by omega)
  rw [decide_eq_false (by omega)] at h1
  have h2 := zzSignBit_any s r h
  have h3 := eq_self s r h
  generalize Ieee.double.word s r = X at *
  go_enter Tryz.func15, Tryz.ntmps15
  go_wp2_with (first | (go_at_call 13; refine (h1 _).mono ?_; rintro e w' ⟨rfl, rfl⟩) | (go_at_call 18; refine (h2 _).mono ?_; rintro e w' ⟨rfl, rfl⟩))
  go_ret
  exact ⟨ret_bool (by simp), rfl⟩
/-! ### math.Frexp -/
def nrm (r : Nat) : Nat := if r < E52 then lift52 r else r
def nrmE (r : Nat) : Int := if r < E52 then -52 else 0
theorem normalize_any (s : Bool) (r : Nat) (h0 : 0 < r) (h : r < 9218868437227405312) (w : World) : Calls Tryz.prog 122 #[.float .f64 (Ieee.double.word s r)] w (Ret (.tuple #[.float .f64 (Ieee.double.word s (nrm r)), .int .i64 (nrmE r)]) w) := by
  have ha := abs_any s r (by omega)
  have hl := lt_nat r 4503599627370496 (by omega) (by omega)
  unfold nrm nrmE
  by_cases e : r < E52
  · have hm : ∀ t w, (binOp .mul t (.float .f64 (Ieee.double.word s r)) (.float .f64 4841369599423283200)).run Tryz.prog w = .ok (.float .f64 (Ieee.double.word s (lift52 r))) w := fun t w => run_float_arith w .mul t .f64 _ _ _ (mul_big s r h0 e)
    rw [decide_eq_true e] at hl
    rw [if_pos e, if_pos e]
    generalize Ieee.double.word s r = X at *
    go_enter Tryz.func122, Tryz.ntmps122
    go_wp2_with (go_at_call 96; refine (ha _).mono ?_; rintro e w' ⟨rfl, rfl⟩)
    go_ret2
    exact ⟨rfl, rfl⟩
  · rw [decide_eq_false e] at hl
    rw [if_neg e, if_neg e]
    generalize Ieee.double.word s r = X at *
    go_enter Tryz.func122, Tryz.ntmps122
    go_wp2_with (go_at_call 96; refine (ha _).mono ?_; rintro e w' ⟨rfl, rfl⟩)
    go_ret2
    exact ⟨rfl, rfl⟩
theorem nrm_facts {r : Nat} (h0 : 0 < r) (h : r < 9218868437227405312) : nrm r < 9218868437227405312 ∧ nrm r / E52 ≤ 2046 ∧ expOf r = nrmE r + (((nrm r / E52 : Nat) : Int) - 1022) ∧ sigOf r = HALF + nrm r % E52 ∧ (nrmE r = -52 ∨ nrmE r = 0) := by
  unfold nrm nrmE
  by_cases e : r < E52
  · obtain ⟨h1, h2⟩ := frexp_low h0 e
    obtain ⟨_, _, f3, _, _, f6⟩ := lift52_facts h0 e
    have hq : lift52 r < 9218868437227405312 := by unfold E52 at f6; omega
    rw [if_pos e, if_pos e]
    exact ⟨hq, by unfold E52; omega, h1, h2, Or.inl rfl⟩
  · obtain ⟨h1, h2⟩ := frexp_normal (r := r) (by omega)
    rw [if_neg e, if_neg e]
    exact ⟨h, by unfold E52; omega, by omega, h2, Or.inr rfl⟩
/-- What math.Frexp answers, on rungs. -/
def fr (r : Nat) : Nat := if r = 0 ∨ 9218868437227405312 ≤ r then r else sigOf r
def fe (r : Nat) : Int := if r = 0 ∨ 9218868437227405312 ≤ r then 0 else expOf r
set_option maxHeartbeats 800000 in
theorem frexp_any (s : Bool) (r : Nat) (h : r < 9223372036854775808) (w : World) : Calls Tryz.prog 95 #[.float .f64 (Ieee.double.word s r)] w (Ret (.tuple #[.float .f64 (Ieee.double.word s (fr r)), .int .i64 (fe r)]) w) := by
  have hi := isInf_any s r h
  have hn := isNaN_any s r h
  unfold fr fe
  by_cases e0 : r = 0
  · have hz := eq_zero s r (by omega)
    rw [decide_eq_true e0] at hz
    rw [if_pos (Or.inl e0), if_pos (Or.inl e0)]
    generalize Ieee.double.word s r = X at *
    go_enter Tryz.func95, Tryz.ntmps95
    go_wp2
    go_ret2
    exact ⟨rfl, rfl⟩
  · by_cases e1 : 9218868437227405312 ≤ r
    · have hz : (FloatKind.f64.format.order (Ieee.double.word s r) 0 == some .eq) = false := by
        by_cases e2 : r = 9218868437227405312
        · rw [eq_zero s r (by omega)]; exact decide_eq_false e0
        · exact (ord_nan s r 0 (by omega) h .eq).1
      rw [if_pos (Or.inr e1), if_pos (Or.inr e1)]
      by_cases e2 : r = 9218868437227405312
      · rw [decide_eq_true e2] at hi
        generalize Ieee.double.word s r = X at *
        go_enter Tryz.func95, Tryz.ntmps95
        go_wp2_with (first | (go_at_call 66; refine (hi _).mono ?_; rintro e w' ⟨rfl, rfl⟩) | (go_at_call 113; refine (hn _).mono ?_; rintro e w' ⟨rfl, rfl⟩))
        go_ret2
        exact ⟨rfl, rfl⟩
      · rw [decide_eq_false e2] at hi
        rw [decide_eq_true (by omega)] at hn
        generalize Ieee.double.word s r = X at *
        go_enter Tryz.func95, Tryz.ntmps95
        go_wp2_with (first | (go_at_call 66; refine (hi _).mono ?_; rintro e w' ⟨rfl, rfl⟩) | (go_at_call 113; refine (hn _).mono ?_; rintro e w' ⟨rfl, rfl⟩))
        go_ret2
        exact ⟨rfl, rfl⟩
    · have hz := eq_zero s r (by omega)
      rw [decide_eq_false e0] at hz
      rw [decide_eq_false (by omega)] at hi hn
      have hno := normalize_any s r (by omega) (by omega)
      obtain ⟨n1, n2, n3, n4, n5⟩ := nrm_facts (r := r) (by omega) (by omega)
      rw [if_neg (by omega), if_neg (by omega), n3, n4]
      have b1 := exp_bits s (nrm r) n1
      have b2 := clear_bits s (nrm r) n1
      have b3 := set_bits s (nrm r % E52) (Nat.mod_lt _ (by decide))
      generalize Ieee.double.word s r = X at *
      generalize Ieee.double.word s (nrm r) = Y at *
      generalize Ieee.double.word s (nrm r % E52) = Z at *
      generalize Ieee.double.word s (HALF + nrm r % E52) = U at *
      generalize nrm r / E52 = e at *
      generalize nrmE r = d at *
      clear n1 n3 n4 e0 e1 h
      have w1 : IntKind.i64.wrap (e : Int) = e := IntWalk.i64_in _ (by omega)
      have w2 : IntKind.i64.wrap ((e : Int) - 1023) = e - 1023 := IntWalk.i64_in _ (by omega)
      have w3 : IntKind.i64.wrap ((e : Int) - 1023 + 1) = e - 1022 := by rw [IntWalk.i64_in _ (by omega)]; omega
      have w4 : IntKind.i64.wrap (d + ((e : Int) - 1022)) = d + (e - 1022) := IntWalk.i64_in _ (by omega)
      go_enter Tryz.func95, Tryz.ntmps95
      go_wp2_with (first | (go_at_call 66; refine (hi _).mono ?_; rintro e w' ⟨rfl, rfl⟩) | (go_at_call 113; refine (hn _).mono ?_; rintro e w' ⟨rfl, rfl⟩) | (go_at_call 122; refine (hno _).mono ?_; rintro e w' ⟨rfl, rfl⟩))
      go_ret2
      exact ⟨by first | rfl | simp, rfl⟩
theorem toFloat_any (x : Nat) (w : World) : Calls Tryz.prog 64 #[.iface 22 (.float .f64 x)] w (Ret (.tuple #[.float .f64 x, .bool true]) w) := by
  go_enter Tryz.func64, Tryz.ntmps64
  go_wp2
  go_ret2
  exact ⟨rfl, rfl⟩
theorem frexpParts_any (b : Nat) (y : Nat) (z : Int) (w : World) (h0 : w.cell? ⟨b, 0, none⟩ = some (.iface 22 (.float .f64 y))) (h1 : w.cell? ⟨b, 1, none⟩ = some (.iface 3 (.int .i64 z))) :
    Calls Tryz.prog 48 #[.iface 68 (.slice (some ⟨b, 0, none⟩) 2 2)] w (Ret (.tuple #[.float .f64 y, .int .i64 z, .bool true]) w) := by
  go_enter Tryz.func48, Tryz.ntmps48
  go_wp2
  go_ret3
  exact ⟨rfl, rfl⟩
theorem funcFrexp_any (s : Bool) (r : Nat) (h : r < 9223372036854775808) (w : World) : Calls Tryz.prog 49 #[.iface 22 (.float .f64 (Ieee.double.word s r))] w
    (Ret (.iface 68 (.slice (some ⟨w.heap.size, 0, none⟩) 2 2)) (w.alloc (.cells #[.iface 22 (.float .f64 (Ieee.double.word s (fr r))), .iface 3 (.int .i64 (fe r))] 20))) := by
  have hf := frexp_any s r h
  generalize Ieee.double.word s r = X at *
  generalize Ieee.double.word s (fr r) = Y at *
  go_enter Tryz.func49, Tryz.ntmps49
  go_wp2_with (first | (go_at_call 65; go_in) | (go_at_call 64; refine (toFloat_any _ _).mono ?_; rintro e w' ⟨rfl, rfl⟩) | (go_at_call 95; refine (hf _).mono ?_; rintro e w' ⟨rfl, rfl⟩))
  go_ret
  exact ⟨rfl, rfl⟩
theorem zz_frexp (s : Bool) (r : Nat) (h : r < 9223372036854775808) (w : World) : Calls Tryz.prog 12 #[.float .f64 (Ieee.double.word s r)] w fun e w' => e = .returned (.tuple #[.float .f64 (Ieee.double.word s (fr r)), .int .i64 (fe r), .bool true]) ∧ Below w.heap.size w w' := by
  have hf := funcFrexp_any s r h
  generalize Ieee.double.word s r = X at *
  generalize Ieee.double.word s (fr r) = Y at *
  generalize fe r = z at *
  go_enter Tryz.func12, Tryz.ntmps12
  go_wp2_with fail
  refine (hf _).mono ?_
  rintro e w' ⟨rfl, rfl⟩
  go_wp2_with fail
  refine (frexpParts_any _ Y z _ (by simp) (by simp)).mono ?_
  rintro e w' ⟨rfl, rfl⟩
  go_wp2
  go_ret3
  exact ⟨rfl, (Below.refl _ _).alloc (Nat.le_refl _) _⟩
/-! ### The law's own way -/
def bitsOf : Value → Nat
  | .float _ b => b
  | _ => 0
theorem bits_lt {y q : Nat} (h : y < q) : bitsOf (.float .f64 y) < bitsOf (.float .f64 q) := h
def capOf (v : Value) : Nat := ONE - bitsOf v
theorem cap_lt {y q : Nat} (h : q < y) (h2 : y < ONE) : capOf (.float .f64 y) < capOf (.float .f64 q) := by
  show ONE - y < ONE - q
  omega
theorem dbl_half : dbl 4602678819172646912 = 4607182418800017408 := by unfold dbl E52; rw [if_neg (by omega)]
theorem dbl_half_fin : dbl 4602678819172646912 < Ieee.double.infRung := by rw [dbl_half, d_inf]; omega
theorem mul_half_two : Ieee.double.mul 4602678819172646912 4611686018427387904 = some 4607182418800017408 := by
  have h := mul_two false 4602678819172646912 (by omega) dbl_half_fin
  rw [word_false, word_false, dbl_half] at h
  exact h
set_option maxRecDepth 100000 in
set_option maxHeartbeats 1600000 in
theorem zzNormalize_any (s : Bool) (r : Nat) (h0 : 0 < r) (h : r < 9218868437227405312) (w : World) :
    Calls Tryz.prog 16 #[.float .f64 (Ieee.double.word s r), .float .f64 4602678819172646912] w (Ret (.tuple #[.float .f64 (Ieee.double.word s (sigOf r)), .int .i64 (expOf r)]) w) := by
  have hz := lt_zero s r (by omega)
  rw [decide_eq_true h0, Bool.and_true] at hz
  have hneg1 : s = true → Op.negFloat .f64 (Ieee.double.word s r) = r := fun e => by rw [neg_word s r (by omega), e]; rfl
  have hneg2 : s = true → ∀ q, q < 9223372036854775808 → Op.negFloat .f64 q = Ieee.double.word s q := fun e q hq => by
    have := neg_word false q hq
    rw [word_false] at this
    rw [this, e]; rfl
  have hpos : s = false → ∀ q, Ieee.double.word s q = q := fun e q => by rw [e]; rfl
  have hb := expOf_bounds h0 (by rw [d_inf]; exact h)
  have hmul : ∀ t w, (binOp .mul t (.float .f64 4602678819172646912) (.float .f64 4611686018427387904)).run Tryz.prog w = .ok (.float .f64 4607182418800017408) w := fun t w => run_float_arith w .mul t .f64 _ _ _ mul_half_two
  have main : ∀ (X : Nat), (FloatKind.f64.format.order X 0 == some .lt) = s → (s = true → Op.negFloat .f64 X = r) → (s = false → X = r) →
      Calls Tryz.prog 16 #[.float .f64 X, .float .f64 4602678819172646912] w (Ret (.tuple #[.float .f64 (Ieee.double.word s (sigOf r)), .int .i64 (expOf r)]) w) := by
    intro X hX hX1 hX2
    have H2 := Lib.hid hneg2
    have H3 := Lib.hid hpos
    have HB := Lib.hid hb
    clear hneg1 hneg2 hpos hb hz
    cases s
    all_goals
      first | (have hx : r = X := (hX2 rfl).symm; subst hx) | (have hx := hX1 rfl)
      clear hX1 hX2
      go_enter Tryz.func16, Tryz.ntmps16
      go_wp2
      try rw [hx]
      go_loopw [6, 7] (fun a e wr => ∃ (q : Nat) (n : Int), a = .float .f64 q ∧ e = .int .i64 n ∧ 0 < q ∧ q < 9218868437227405312 ∧ Hid (expOf q + n = expOf r) ∧ Hid (sigOf q = sigOf r) ∧ w = wr) (fun a _ _ => bitsOf a)
      case atStart => exact ⟨r, 0, rfl, rfl, h0, h, Lib.hid (by omega), Lib.hid rfl, rfl⟩
      case round =>
        obtain ⟨q, n, rfl, rfl, q0, q1, He, Hs, rfl⟩ := hrel
        have hge := ge_nat q 4607182418800017408 (by omega) (by omega)
        have hqb := expOf_bounds q0 (by rw [d_inf]; exact q1)
        by_cases hlt : ONE ≤ q
        · rw [decide_eq_true hlt] at hge
          obtain ⟨g1, g2, g3⟩ := half_facts hlt
          have hd : ∀ t w, (binOp .quo t (.float .f64 q) (.float .f64 4611686018427387904)).run Tryz.prog w = .ok (.float .f64 (q - E52)) w := fun t w => run_float_arith w .quo t .f64 _ _ _ (by
            have := div_two false q (by unfold ONE at hlt; unfold E52; omega) (by rw [d_inf]; exact q1)
            rw [word_false, word_false] at this
            exact this)
          obtain ⟨y, hy⟩ : ∃ y, y = q - E52 := ⟨_, rfl⟩
          have hyq : y < q := by unfold ONE at hlt; unfold E52 at hy; omega
          rw [← hy] at g1 g2 g3
          simp only [← hy] at hd
          clear hy
          have hw : IntKind.i64.wrap (n + 1) = n + 1 := IntWalk.i64_in _ (by have := He.out; have := HB.out; omega)
          go_wp2
          go_roundw
          case rel => exact ⟨y, n + 1, rfl, (by first | rfl | rw [hw]), g3, by omega, Lib.hid (by have := He.out; omega), Lib.hid (by rw [g2, Hs.out]), by first | rfl | trivial⟩
          case measure => exact bits_lt hyq
        · rw [decide_eq_false hlt] at hge
          go_wp2
          go_loopw [6, 7] (fun a e wr => ∃ (q : Nat) (n : Int), a = .float .f64 q ∧ e = .int .i64 n ∧ 0 < q ∧ q < ONE ∧ Hid (expOf q + n = expOf r) ∧ Hid (sigOf q = sigOf r) ∧ w = wr) (fun a _ _ => capOf a)
          case atStart => exact ⟨q, n, rfl, rfl, q0, by omega, He, Hs, rfl⟩
          case round =>
            clear q0 q1 He Hs hge hlt hqb
            obtain ⟨q, n, rfl, rfl, q0, q1, He, Hs, rfl⟩ := hrel
            have hlt := lt_nat q 4602678819172646912 (by unfold ONE at q1; omega) (by omega)
            have hqb := expOf_bounds q0 (by rw [d_inf]; unfold ONE at q1; omega)
            by_cases hh : q < HALF
            · rw [decide_eq_true hh] at hlt
              obtain ⟨g1, g2, g3, g4, g5⟩ := dbl_facts q0 hh
              have hd : ∀ t w, (binOp .mul t (.float .f64 q) (.float .f64 4611686018427387904)).run Tryz.prog w = .ok (.float .f64 (dbl q)) w := fun t w => run_float_arith w .mul t .f64 _ _ _ (by
                have := mul_two false q q0 g5
                rw [word_false, word_false] at this
                exact this)
              obtain ⟨y, hy⟩ : ∃ y, y = dbl q := ⟨_, rfl⟩
              rw [← hy] at g1 g2 g3 g4
              simp only [← hy] at hd
              clear hy g5
              have hw : IntKind.i64.wrap (n - 1) = n - 1 := IntWalk.i64_in _ (by have := He.out; have := HB.out; omega)
              go_wp2
              go_roundw
              case rel => exact ⟨y, n - 1, rfl, (by first | rfl | rw [hw]), by omega, g4, Lib.hid (by have := He.out; omega), Lib.hid (by rw [g2, Hs.out]), by first | rfl | trivial⟩
              case measure => exact cap_lt g3 g4
            · rw [decide_eq_false hh] at hlt
              obtain ⟨g1, g2⟩ := end_facts (r := q) (by omega) q1
              have hs : q = sigOf r := by rw [← Hs.out, g2]
              have he : n = expOf r := by have := He.out; omega
              have h3 := H3.out
              have h2 := H2.out
              subst hs he
              first
                | (have hp := h3 trivial (sigOf r)
                   rw [hp]
                   clear h2 h3
                   go_wp2
                   go_ret2
                   exact ⟨rfl, rfl⟩)
                | (have hp := h2 (by first | rfl | trivial) (sigOf r) (by unfold ONE at q1; omega)
                   rw [← hp]
                   clear h2 h3
                   go_wp2
                   go_ret2
                   exact ⟨rfl, rfl⟩)
  exact main _ hz hneg1 (fun e => hpos e r)
set_option maxRecDepth 100000 in
theorem lawFrexp (x : Nat) (hx : x < 18446744073709551616) (w : World) : Calls Tryz.prog 3 #[.float .f64 x] w fun e w' => e = .returned (.bool true) ∧ Below w.heap.size w w' := by
  obtain ⟨s, r, rfl, h⟩ := word_split x hx
  have hz := zz_frexp s r h w
  have hn := zzIsNaN_any s r h
  have hi := zzIsInf_any s r h
  by_cases e1 : 9218868437227405312 < r
  · have e2 : fr r = r := by unfold fr; rw [if_pos (by omega)]
    have e3 : fe r = 0 := by unfold fe; rw [if_pos (by omega)]
    rw [e2, e3] at hz
    rw [decide_eq_true e1] at hn
    generalize Ieee.double.word s r = X at *
    go_enter Tryz.func3, Tryz.ntmps3
    go_wp2_with fail
    refine hz.mono ?_
    rintro e w1 ⟨rfl, b1⟩
    have B1 := Lib.hid b1
    clear b1 hz
    go_wp2_with (go_at_call 13; refine (hn _).mono ?_; rintro e w' ⟨rfl, rfl⟩)
    go_ret
    exact ⟨rfl, B1.out⟩
  · rw [decide_eq_false e1] at hn
    have hq := eq_zero s r (by omega)
    have hs := zzSame_self s r (by omega)
    by_cases e4 : r = 0 ∨ r = 9218868437227405312
    · have e2 : fr r = r := by unfold fr; rw [if_pos (by omega)]
      have e3 : fe r = 0 := by unfold fe; rw [if_pos (by omega)]
      rw [e2, e3] at hz
      rcases e4 with e4 | e4
      · rw [decide_eq_true e4] at hq
        generalize Ieee.double.word s r = X at *
        go_enter Tryz.func3, Tryz.ntmps3
        go_wp2_with fail
        refine hz.mono ?_
        rintro e w1 ⟨rfl, b1⟩
        have B1 := Lib.hid b1
        clear b1 hz
        go_wp2_with (first | (go_at_call 13; refine (hn _).mono ?_; rintro e w' ⟨rfl, rfl⟩) | (go_at_call 14; refine (hi _).mono ?_; rintro e w' ⟨rfl, rfl⟩) | (go_at_call 15; refine (hs _).mono ?_; rintro e w' ⟨rfl, rfl⟩))
        go_ret
        exact ⟨rfl, B1.out⟩
      · rw [decide_eq_false (by omega)] at hq
        rw [decide_eq_true e4] at hi
        generalize Ieee.double.word s r = X at *
        go_enter Tryz.func3, Tryz.ntmps3
        go_wp2_with fail
        refine hz.mono ?_
        rintro e w1 ⟨rfl, b1⟩
        have B1 := Lib.hid b1
        clear b1 hz
        go_wp2_with (first | (go_at_call 13; refine (hn _).mono ?_; rintro e w' ⟨rfl, rfl⟩) | (go_at_call 14; refine (hi _).mono ?_; rintro e w' ⟨rfl, rfl⟩) | (go_at_call 15; refine (hs _).mono ?_; rintro e w' ⟨rfl, rfl⟩))
        go_ret
        exact ⟨rfl, B1.out⟩
    · have e2 : fr r = sigOf r := by unfold fr; rw [if_neg (by omega)]
      have e3 : fe r = expOf r := by unfold fe; rw [if_neg (by omega)]
      rw [e2, e3] at hz
      rw [decide_eq_false (by omega)] at hi hq
      have hnorm := zzNormalize_any s r (by omega) (by omega)
      have hsig : sigOf r ≤ 9218868437227405312 := by
        unfold sigOf
        split
        · rename_i hl
          have := sub_bounds (r := r) (by omega) hl
          unfold HALF E52 at *; omega
        · have := Nat.mod_lt r (show 0 < E52 by decide)
          unfold HALF E52 at *; omega
      have hs2 := zzSame_self s (sigOf r) hsig
      clear hs
      generalize Ieee.double.word s r = X at *
      generalize Ieee.double.word s (sigOf r) = Y at *
      generalize expOf r = z at *
      go_enter Tryz.func3, Tryz.ntmps3
      go_wp2_with fail
      refine hz.mono ?_
      rintro e w1 ⟨rfl, b1⟩
      have B1 := Lib.hid b1
      clear b1 hz
      go_wp2_with (first | (go_at_call 13; refine (hn _).mono ?_; rintro e w' ⟨rfl, rfl⟩) | (go_at_call 14; refine (hi _).mono ?_; rintro e w' ⟨rfl, rfl⟩) | (go_at_call 16; refine (hnorm _).mono ?_; rintro e w' ⟨rfl, rfl⟩) | (go_at_call 15; refine (hs2 _).mono ?_; rintro e w' ⟨rfl, rfl⟩))
      go_ret
      exact ⟨ret_bool (by simp), B1.out⟩
end Go.Proofs.YtlhkbdeceogjgaaGreatDoor
