/- The remainder of two floats against the remainder of two ints: the law walked. Conditions: none. -/
import Derived.Test.YtnlngodbjkefhaaGreatDoorModF
import Derived.Laws.Externs
namespace Go.Proofs.YtnlngodbjkefhaaGreatDoor
open Go.RowKit Go
@[go_sem] theorem run_f64frombits (n : Int) (w : World) : (callFunc 47 #[.int .u64 n]).run Tryz.prog w = .ok (.value (.float .f64 n.toNat)) w := by
  rw [run_callFunc_extern Tryz.func47 (by kernel_rfl) (by kernel_rfl) (by kernel_rfl) (e := Extern.MathFloatBits.float64frombits) (by kernel_rfl)]
  rfl
theorem isNaN_any (s : Bool) (r : Nat) (h : r < 9223372036854775808) (w : World) : Calls Tryz.prog 23 #[.float .f64 (Ieee.double.word s r)] w (Ret (.bool (decide (9218868437227405312 < r))) w) := by
  have hg := ne_self s r h
  generalize Ieee.double.word s r = X at *
  go_enter Tryz.func23, Tryz.ntmps23
  go_wp2
  go_ret
  exact ⟨ret_bool (by first | rfl | exact hg), rfl⟩
set_option maxRecDepth 100000 in
theorem nan_any (w : World) : Calls Tryz.prog 24 #[] w (Ret (.float .f64 9221120237041090561) w) := by
  go_enter Tryz.func24, Tryz.ntmps24
  go_wp2
  go_ret
  exact ⟨rfl, rfl⟩
set_option maxRecDepth 100000 in
theorem mod2_nan (s t : Bool) (r q : Nat) (hr : r < 9223372036854775808) (hq : q < 9223372036854775808) (h : 9218868437227405312 < r ∨ 9218868437227405312 < q) (w : World) :
    Calls Tryz.prog 22 #[.float .f64 (Ieee.double.word s r), .float .f64 (Ieee.double.word t q)] w (Ret (.iface 22 (.float .f64 9221120237041090561)) w) := by
  have h1 := isNaN_any s r hr
  have h2 := isNaN_any t q hq
  by_cases e : 9218868437227405312 < r
  · rw [decide_eq_true e] at h1
    have H1 := Lib.hid h1
    clear h1 h2
    generalize Ieee.double.word s r = X at *
    generalize Ieee.double.word t q = Y at *
    go_enter Tryz.func22, Tryz.ntmps22
    go_wp2_with fail
    refine (H1.out _).mono ?_
    rintro e w' ⟨rfl, rfl⟩
    go_wp2_with (go_at_call 24; refine (nan_any _).mono ?_; rintro e w' ⟨rfl, rfl⟩)
    go_ret
    exact ⟨rfl, rfl⟩
  · rw [decide_eq_false e] at h1
    rw [decide_eq_true (by omega)] at h2
    have H1 := Lib.hid h1
    have H2 := Lib.hid h2
    clear h1 h2
    generalize Ieee.double.word s r = X at *
    generalize Ieee.double.word t q = Y at *
    go_enter Tryz.func22, Tryz.ntmps22
    go_wp2_with fail
    refine (H1.out _).mono ?_
    rintro e w' ⟨rfl, rfl⟩
    go_wp2_with fail
    refine (H2.out _).mono ?_
    rintro e w' ⟨rfl, rfl⟩
    go_wp2_with (go_at_call 24; refine (nan_any _).mono ?_; rintro e w' ⟨rfl, rfl⟩)
    go_ret
    exact ⟨rfl, rfl⟩
set_option maxRecDepth 100000 in
theorem mod2_zero (s t : Bool) (r q : Nat) (hr : r ≤ 9218868437227405312) (hq : q ≤ 9218868437227405312) (h0 : cl t q = 0) (w : World) :
    Calls Tryz.prog 22 #[.float .f64 (Ieee.double.word s r), .float .f64 (Ieee.double.word t q)] w (ErrPost 47 w) := by
  have h1 := isNaN_any s r (by omega)
  have h2 := isNaN_any t q (by omega)
  have h3 := floatToInt_any t q hq
  rw [decide_eq_false (by omega)] at h1 h2
  rw [h0] at h3
  have H1 := Lib.hid h1
  have H2 := Lib.hid h2
  have H3 := Lib.hid h3
  clear h1 h2 h3 h0
  generalize Ieee.double.word s r = X at *
  generalize Ieee.double.word t q = Y at *
  go_enter Tryz.func22, Tryz.ntmps22
  go_wp2_with fail
  refine (H1.out _).mono ?_
  rintro e w' ⟨rfl, rfl⟩
  go_wp2_with fail
  refine (H2.out _).mono ?_
  rintro e w' ⟨rfl, rfl⟩
  go_wp2_with fail
  refine (H3.out _).mono ?_
  rintro e w' ⟨rfl, rfl⟩
  go_wp2
  go_ret
  exact ⟨_, rfl, (Below.refl _ _).alloc (Nat.le_refl _) _⟩
set_option maxRecDepth 100000 in
theorem mod2_any (s t : Bool) (r q : Nat) (hr : r ≤ 9218868437227405312) (hq : q ≤ 9218868437227405312) (h0 : cl t q ≠ 0) (w : World) :
    Calls Tryz.prog 22 #[.float .f64 (Ieee.double.word s r), .float .f64 (Ieee.double.word t q)] w (Ret (.iface 3 (.int .i64 ((cl s r).tmod (cl t q)))) w) := by
  have h1 := isNaN_any s r (by omega)
  have h2 := isNaN_any t q (by omega)
  have h3 := floatToInt_any t q hq
  have h4 := floatToInt_any s r hr
  have hb0 : (cl t q == 0) = false := by simpa using h0
  have hw := IntWalk.i64_in _ (tmod_range (cl s r) (cl t q) (cl_range s r))
  rw [decide_eq_false (by omega)] at h1 h2
  have H1 := Lib.hid h1
  have H2 := Lib.hid h2
  have H3 := Lib.hid h3
  have H4 := Lib.hid h4
  clear h1 h2 h3 h4
  generalize Ieee.double.word s r = X at *
  generalize Ieee.double.word t q = Y at *
  generalize cl s r = x at *
  generalize cl t q = y at *
  go_enter Tryz.func22, Tryz.ntmps22
  go_wp2_with fail
  refine (H1.out _).mono ?_
  rintro e w' ⟨rfl, rfl⟩
  go_wp2_with fail
  refine (H2.out _).mono ?_
  rintro e w' ⟨rfl, rfl⟩
  go_wp2_with fail
  refine (H3.out _).mono ?_
  rintro e w' ⟨rfl, rfl⟩
  go_wp2_with fail
  refine (H4.out _).mono ?_
  rintro e w' ⟨rfl, rfl⟩
  go_wp2
  go_ret
  exact ⟨ret_iface (by first | rfl | exact hw), rfl⟩
set_option maxRecDepth 100000 in
set_option maxHeartbeats 800000 in
theorem zz_modf_nan (X Y : Nat) (h2 : ∀ w, Calls Tryz.prog 22 #[.float .f64 X, .float .f64 Y] w (Ret (.iface 22 (.float .f64 9221120237041090561)) w)) (w : World) : Calls Tryz.prog 8 #[.float .f64 X, .float .f64 Y] w (RetB (.agg #[.int .i64 3, .int .i64 0, .float .f64 9221120237041090561, .string ⟨#[]⟩, .slice none 0 0, .int .i64 0, .bool false, .int .u64 0]) w) := by
  have H2 := Lib.hid h2
  clear h2
  go_enter Tryz.func8, Tryz.ntmps8
  go_wp2_with (first | (go_at_call 14; go_in) | (go_at_call 20; go_in) | (go_at_call 22; refine (H2.out _).mono ?_; rintro e w' ⟨rfl, rfl⟩) | (go_at_call 13; refine (classify_f64 _ _).mono ?_; rintro e w1 ⟨rfl, hb⟩; obtain ⟨hc, hf⟩ := bcell hb))
  exact bodyPost_ret (v := .agg #[.int .i64 3, .int .i64 0, .float .f64 9221120237041090561, .string ⟨#[]⟩, .slice none 0 0, .int .i64 0, .bool false, .int .u64 0]) (by simp [results, Tryz.results8, go_sem, hc]) rfl ⟨rfl, below8 (((Below.refl _ _).alloc (Nat.le_refl _) _).trans (hb.mono (by simp))) _ (Nat.le_refl _) _ _ _ _ _ _ _ _⟩
set_option maxRecDepth 100000 in
set_option maxHeartbeats 800000 in
theorem zz_modf_zero (X Y : Nat) (h2 : ∀ w, Calls Tryz.prog 22 #[.float .f64 X, .float .f64 Y] w (ErrPost 47 w)) (w : World) : Calls Tryz.prog 8 #[.float .f64 X, .float .f64 Y] w (RetB (.agg #[.int .i64 8, .int .i64 0, .float .f64 0, .string ⟨#[]⟩, .slice none 0 0, .int .i64 0, .bool false, .int .u64 0]) w) := by
  have H2 := Lib.hid h2
  clear h2
  go_enter Tryz.func8, Tryz.ntmps8
  go_wp2_with (first | (go_at_call 14; go_in) | (go_at_call 20; go_in) | (go_at_call 22; refine (H2.out _).mono ?_; rintro e w0 ⟨a, rfl, hb0⟩; obtain ⟨hc0, hf0⟩ := bcell hb0; have hz0 : w.heap.size < w0.heap.size := by (have := hb0.size; simp at this; omega)) | (go_at_call 13; refine (classify_zmod _ _).mono ?_; rintro e w1 ⟨rfl, hb⟩; obtain ⟨hc, hf⟩ := bcell hb))
  exact bodyPost_ret (v := .agg #[.int .i64 8, .int .i64 0, .float .f64 0, .string ⟨#[]⟩, .slice none 0 0, .int .i64 0, .bool false, .int .u64 0]) (by simp [results, Tryz.results8, go_sem, hc, hc0, hz0]) rfl ⟨rfl, below8 ((((Below.refl _ _).alloc (Nat.le_refl _) _).trans (hb0.mono (by simp))).trans (hb.mono (by have h1 := hb0.size; simp at h1; omega))) _ (Nat.le_refl _) _ _ _ _ _ _ _ _⟩
set_option maxRecDepth 100000 in
set_option maxHeartbeats 800000 in
theorem zz_modf (X Y : Nat) (z : Int) (h2 : ∀ w, Calls Tryz.prog 22 #[.float .f64 X, .float .f64 Y] w (Ret (.iface 3 (.int .i64 z)) w)) (w : World) : Calls Tryz.prog 8 #[.float .f64 X, .float .f64 Y] w (RetB (.agg #[.int .i64 2, .int .i64 z, .float .f64 0, .string ⟨#[]⟩, .slice none 0 0, .int .i64 0, .bool false, .int .u64 0]) w) := by
  have H2 := Lib.hid h2
  clear h2
  go_enter Tryz.func8, Tryz.ntmps8
  go_wp2_with (first | (go_at_call 14; go_in) | (go_at_call 20; go_in) | (go_at_call 22; refine (H2.out _).mono ?_; rintro e w' ⟨rfl, rfl⟩) | (go_at_call 13; refine (classify_int _ _).mono ?_; rintro e w1 ⟨rfl, hb⟩; obtain ⟨hc, hf⟩ := bcell hb))
  exact bodyPost_ret (v := .agg #[.int .i64 2, .int .i64 z, .float .f64 0, .string ⟨#[]⟩, .slice none 0 0, .int .i64 0, .bool false, .int .u64 0]) (by simp [results, Tryz.results8, go_sem, hc]) rfl ⟨rfl, below8 (((Below.refl _ _).alloc (Nat.le_refl _) _).trans (hb.mono (by simp))) _ (Nat.le_refl _) _ _ _ _ _ _ _ _⟩
theorem nan_ne : (FloatKind.f64.format.order 9221120237041090561 9221120237041090561 != some .eq) = true := by decide
set_option maxRecDepth 100000 in
set_option maxHeartbeats 1600000 in
theorem lawModFloats (x y : Nat) (hx : x < 18446744073709551616) (hy : y < 18446744073709551616) (w : World) :
    Calls Tryz.prog 4 #[.float .f64 x, .float .f64 y] w (RetB (.bool true) w) := by
  obtain ⟨s, r, rfl, hr⟩ := word_split x hx
  obtain ⟨t, q, rfl, hq⟩ := word_split y hy
  have n1 := ne_self s r hr
  have n2 := ne_self t q hq
  have nn := nan_ne
  by_cases hn : 9218868437227405312 < r ∨ 9218868437227405312 < q
  · have hz := zz_modf_nan _ _ (mod2_nan s t r q hr hq hn)
    have HZ := Lib.hid hz
    clear hz
    by_cases e : 9218868437227405312 < r
    · rw [decide_eq_true e] at n1
      clear n2
      generalize Ieee.double.word s r = X at *
      generalize Ieee.double.word t q = Y at *
      go_enter Tryz.func4, Tryz.ntmps4
      go_wp2_with fail
      refine (HZ.out _).mono ?_
      rintro e w1 ⟨rfl, hb⟩
      go_wp2
      go_ret
      exact ⟨ret_bool (by first | rfl | simp), hb.alloc hb.size _⟩
    · rw [decide_eq_false e] at n1
      rw [decide_eq_true (by omega)] at n2
      generalize Ieee.double.word s r = X at *
      generalize Ieee.double.word t q = Y at *
      go_enter Tryz.func4, Tryz.ntmps4
      go_wp2_with fail
      refine (HZ.out _).mono ?_
      rintro e w1 ⟨rfl, hb⟩
      go_wp2
      go_ret
      exact ⟨ret_bool (by first | rfl | simp), hb.alloc hb.size _⟩
  · rw [decide_eq_false (by omega)] at n1 n2
    have h3 := clampTrunc_any s r (by omega)
    have h4 := clampTrunc_any t q (by omega)
    have H3 := Lib.hid h3
    have H4 := Lib.hid h4
    have HR := Lib.hid (cl_range s r)
    by_cases h0 : cl t q = 0
    · have hz := zz_modf_zero _ _ (mod2_zero s t r q (by omega) (by omega) h0)
      have HZ := Lib.hid hz
      have H0 := Lib.hid h0
      clear hz h0 h3 h4
      generalize Ieee.double.word s r = X at *
      generalize Ieee.double.word t q = Y at *
      go_enter Tryz.func4, Tryz.ntmps4
      go_wp2_with fail
      refine (HZ.out _).mono ?_
      rintro e w1 ⟨rfl, hb⟩
      go_wp2_with fail
      refine (H3.out _).mono ?_
      rintro e w' ⟨rfl, rfl⟩
      go_wp2_with fail
      refine (H4.out _).mono ?_
      rintro e w' ⟨rfl, rfl⟩
      rw [H0.out]
      go_wp2_with fail
      refine (zz_mod0 _ _).mono ?_
      rintro e w2 ⟨rfl, hb2⟩
      obtain ⟨hc2, hf2⟩ := bcell hb2
      have hz2 : w1.heap.size < w2.heap.size := by (have := hb2.size; simp at this; omega)
      go_wp2
      go_ret
      exact ⟨ret_bool (by first | rfl | simp), ((hb.alloc hb.size _).trans (hb2.mono (by have := hb.size; simp; omega))).alloc (by have h1 := hb.size; omega) _⟩
    · have hz := zz_modf _ _ _ (mod2_any s t r q (by omega) (by omega) h0)
      have HZ := Lib.hid hz
      have H0 := Lib.hid h0
      clear hz h0 h3 h4
      generalize Ieee.double.word s r = X at *
      generalize Ieee.double.word t q = Y at *
      go_enter Tryz.func4, Tryz.ntmps4
      go_wp2_with fail
      refine (HZ.out _).mono ?_
      rintro e w1 ⟨rfl, hb⟩
      go_wp2_with fail
      refine (H3.out _).mono ?_
      rintro e w' ⟨rfl, rfl⟩
      go_wp2_with fail
      refine (H4.out _).mono ?_
      rintro e w' ⟨rfl, rfl⟩
      go_wp2_with fail
      refine (zz_mod _ _ H0.out HR.out _).mono ?_
      rintro e w2 ⟨rfl, hb2⟩
      obtain ⟨hc2, hf2⟩ := bcell hb2
      have hz2 : w1.heap.size < w2.heap.size := by (have := hb2.size; simp at this; omega)
      go_wp2
      go_ret
      exact ⟨ret_bool (by first | rfl | simp), ((hb.alloc hb.size _).trans (hb2.mono (by have := hb.size; simp; omega))).alloc (by have h1 := hb.size; omega) _⟩
end Go.Proofs.YtnlngodbjkefhaaGreatDoor

