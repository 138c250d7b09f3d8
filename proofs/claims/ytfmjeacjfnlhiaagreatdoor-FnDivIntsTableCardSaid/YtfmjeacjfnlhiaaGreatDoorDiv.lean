/- Quotients of two ints and of two floats: the operator and the exports walked, but for the least int by minus one. Conditions: none. -/
import Derived.Test.YtfmjeacjfnlhiaaGreatDoorMod
import Derived.Test.YtfmjeacjfnlhiaaGreatDoorBits
import Derived.Test.YtfmjeacjfnlhiaaGreatDoorDivF
namespace Go.Proofs.YtfmjeacjfnlhiaaGreatDoor
open Go.RowKit Go
theorem tdiv_facts (l r : Int) : (l.tdiv r).natAbs = l.natAbs / r.natAbs ∧ (0 ≤ l → 0 ≤ r → 0 ≤ l.tdiv r) ∧ (l ≤ 0 → 0 ≤ r → l.tdiv r ≤ 0) ∧ (0 ≤ l → r ≤ 0 → l.tdiv r ≤ 0) ∧ (l ≤ 0 → r ≤ 0 → 0 ≤ l.tdiv r) := by
  have nn : ∀ a b : Int, 0 ≤ a → 0 ≤ b → 0 ≤ a.tdiv b := fun a b ha hb => Int.tdiv_nonneg ha hb
  have hna : ∀ m n : Nat, (((m : Nat) : Int) / ((n : Nat) : Int)).natAbs = m / n := fun m n => by rw [← Int.natCast_ediv, Int.natAbs_natCast]
  refine ⟨?_, nn l r, fun h1 h2 => ?_, fun h1 h2 => ?_, fun h1 h2 => ?_⟩
  · rcases l with m | m <;> rcases r with n | n <;> simp [Int.tdiv]
    · exact hna m n
    · exact hna m (n + 1)
    · exact hna (m + 1) n
    · exact hna (m + 1) (n + 1)
  · have := nn (-l) r (by omega) h2
    rw [Int.neg_tdiv] at this; omega
  · have := nn l (-r) h1 (by omega)
    rw [Int.tdiv_neg] at this; omega
  · have := nn (-l) (-r) (by omega) (by omega)
    rw [Int.neg_tdiv, Int.tdiv_neg] at this; omega
theorem tdiv_range (l r : Int) (hl : -9223372036854775808 ≤ l ∧ l ≤ 9223372036854775807) (h0 : r ≠ 0) (h : ¬ (l = -9223372036854775808 ∧ r = -1)) : -9223372036854775808 ≤ l.tdiv r ∧ l.tdiv r ≤ 9223372036854775807 := by
  obtain ⟨h1, h2, h3, h4, h5⟩ := tdiv_facts l r
  have hle : l.natAbs / r.natAbs ≤ l.natAbs := Nat.div_le_self _ _
  by_cases hr1 : r.natAbs = 1
  · by_cases hm : l = -9223372036854775808
    · have : r = 1 := by omega
      have := h3 (by omega) (by omega)
      omega
    · omega
  · have h2' : l.natAbs / r.natAbs ≤ l.natAbs / 2 := Nat.div_le_div_left (by omega) (by omega)
    omega
theorem tmod_zero_iff (l r : Int) : l.tmod r = 0 ↔ l.natAbs % r.natAbs = 0 := by
  have := (tmod_facts l r).1
  omega
set_option maxRecDepth 100000 in
theorem negate_any (l : Int) (hl : -9223372036854775808 ≤ l ∧ l ≤ 9223372036854775807) (h : l ≠ -9223372036854775808) (w : World) : Calls Tryz.prog 20 #[.int .i64 l] w (Ret (.iface 3 (.int .i64 (-l))) w) := by
  have hb : (l == -9223372036854775808) = false := by simpa using h
  have hw : IntKind.i64.wrap (-l) = -l := IntWalk.i64_in _ (by omega)
  have hw2 : IntKind.i64.wrap (0 - l) = -l := by rw [IntWalk.i64_in _ (by omega)]; omega
  go_enter Tryz.func20, Tryz.ntmps20
  go_wp2
  go_ret
  exact ⟨ret_iface (by first | rfl | exact hw | exact hw2), rfl⟩
set_option maxRecDepth 100000 in
theorem div1_zero (l : Int) (w : World) : Calls Tryz.prog 19 #[.int .i64 l, .int .i64 0] w (ErrPost 46 w) := by
  go_enter Tryz.func19, Tryz.ntmps19
  go_wp2
  go_ret
  exact ⟨_, rfl, (Below.refl _ _).alloc (Nat.le_refl _) _⟩
set_option maxRecDepth 100000 in
theorem div1_exact (l r : Int) (hl : -9223372036854775808 ≤ l ∧ l ≤ 9223372036854775807) (h0 : r ≠ 0) (h : ¬ (l = -9223372036854775808 ∧ r = -1)) (hm : l.tmod r = 0) (w : World) :
    Calls Tryz.prog 19 #[.int .i64 l, .int .i64 r] w (Ret (.iface 3 (.int .i64 (l.tdiv r))) w) := by
  by_cases h1 : r = -1
  · subst h1
    have HE := Lib.hid (show -l = l.tdiv (-1) from by simp)
    have HN := Lib.hid (negate_any l hl (fun e => h ⟨e, rfl⟩))
    clear hm h
    go_enter Tryz.func19, Tryz.ntmps19
    go_wp2_with (go_at_call 20; refine (HN.out _).mono ?_; rintro e w' ⟨rfl, rfl⟩)
    go_ret
    exact ⟨ret_iface HE.out, rfl⟩
  · have hb0 : (r == 0) = false := by simpa using h0
    have hb1 : (r == -1) = false := by simpa using h1
    have hw := IntWalk.i64_in _ (tmod_range l r hl)
    have hb2 : (l.tmod r == 0) = true := by simpa using hm
    have hw2 := IntWalk.i64_in _ (tdiv_range l r hl h0 h)
    clear hm h
    go_enter Tryz.func19, Tryz.ntmps19
    go_wp2
    go_ret
    exact ⟨ret_iface (by first | rfl | exact hw2), rfl⟩
set_option maxRecDepth 100000 in
theorem div1_float (l r : Int) (y : Nat) (hl : -9223372036854775808 ≤ l ∧ l ≤ 9223372036854775807) (h0 : r ≠ 0) (h1 : r ≠ -1) (hm : l.tmod r ≠ 0) (hy : Ieee.double.div (floatOfInt .f64 l) (floatOfInt .f64 r) = some y) (w : World) :
    Calls Tryz.prog 19 #[.int .i64 l, .int .i64 r] w (Ret (.iface 22 (.float .f64 y)) w) := by
  have hb0 : (r == 0) = false := by simpa using h0
  have hb1 : (r == -1) = false := by simpa using h1
  have hw := IntWalk.i64_in _ (tmod_range l r hl)
  have hb2 : (l.tmod r == 0) = false := by simpa using hm
  have hop : ∀ t w, (binOp .quo t (.float .f64 (floatOfInt .f64 l)) (.float .f64 (floatOfInt .f64 r))).run Tryz.prog w = .ok (.float .f64 y) w := fun t w => run_float_arith w .quo t .f64 _ _ _ hy
  clear hm hy
  go_enter Tryz.func19, Tryz.ntmps19
  go_wp2
  go_ret
  exact ⟨rfl, rfl⟩
set_option maxRecDepth 100000 in
set_option maxHeartbeats 800000 in
theorem zz_div0 (l : Int) (w : World) : Calls Tryz.prog 5 #[.int .i64 l, .int .i64 0] w (RetB (.agg #[.int .i64 7, .int .i64 0, .float .f64 0, .string ⟨#[]⟩, .slice none 0 0, .int .i64 0, .bool false, .int .u64 0]) w) := by
  go_enter Tryz.func5, Tryz.ntmps5
  go_wp2_with (first | (go_at_call 13; go_in) | (go_at_call 18; go_in) | (go_at_call 19; refine (div1_zero l _).mono ?_; rintro e w0 ⟨a, rfl, hb0⟩; obtain ⟨hc0, hf0⟩ := bcell hb0; have hz0 : w.heap.size < w0.heap.size := by (have := hb0.size; simp at this; omega)) | (go_at_call 12; refine (classify_zdiv _ _).mono ?_; rintro e w1 ⟨rfl, hb⟩; obtain ⟨hc, hf⟩ := bcell hb))
  exact bodyPost_ret (v := .agg #[.int .i64 7, .int .i64 0, .float .f64 0, .string ⟨#[]⟩, .slice none 0 0, .int .i64 0, .bool false, .int .u64 0]) (by simp [results, Tryz.results5, go_sem, hc, hc0, hz0]) rfl ⟨rfl, below8 ((((Below.refl _ _).alloc (Nat.le_refl _) _).trans (hb0.mono (by simp))).trans (hb.mono (by have h1 := hb0.size; simp at h1; omega))) _ (Nat.le_refl _) _ _ _ _ _ _ _ _⟩
set_option maxRecDepth 100000 in
set_option maxHeartbeats 800000 in
theorem zz_divi (l r : Int) (hl : -9223372036854775808 ≤ l ∧ l ≤ 9223372036854775807) (h0 : r ≠ 0) (h : ¬ (l = -9223372036854775808 ∧ r = -1)) (hm : l.tmod r = 0) (w : World) : Calls Tryz.prog 5 #[.int .i64 l, .int .i64 r] w (RetB (.agg #[.int .i64 2, .int .i64 (l.tdiv r), .float .f64 0, .string ⟨#[]⟩, .slice none 0 0, .int .i64 0, .bool false, .int .u64 0]) w) := by
  have H1 := Lib.hid (div1_exact l r hl h0 h hm)
  clear hm h h0
  go_enter Tryz.func5, Tryz.ntmps5
  go_wp2_with (first | (go_at_call 13; go_in) | (go_at_call 18; go_in) | (go_at_call 19; refine (H1.out _).mono ?_; rintro e w' ⟨rfl, rfl⟩) | (go_at_call 12; refine (classify_int _ _).mono ?_; rintro e w1 ⟨rfl, hb⟩; obtain ⟨hc, hf⟩ := bcell hb))
  exact bodyPost_ret (v := .agg #[.int .i64 2, .int .i64 (l.tdiv r), .float .f64 0, .string ⟨#[]⟩, .slice none 0 0, .int .i64 0, .bool false, .int .u64 0]) (by simp [results, Tryz.results5, go_sem, hc]) rfl ⟨rfl, below8 (((Below.refl _ _).alloc (Nat.le_refl _) _).trans (hb.mono (by simp))) _ (Nat.le_refl _) _ _ _ _ _ _ _ _⟩
set_option maxRecDepth 100000 in
set_option maxHeartbeats 800000 in
theorem zz_divf (l r : Int) (y : Nat) (hl : -9223372036854775808 ≤ l ∧ l ≤ 9223372036854775807) (h0 : r ≠ 0) (h1 : r ≠ -1) (hm : l.tmod r ≠ 0) (hy : Ieee.double.div (floatOfInt .f64 l) (floatOfInt .f64 r) = some y) (w : World) : Calls Tryz.prog 5 #[.int .i64 l, .int .i64 r] w (RetB (.agg #[.int .i64 3, .int .i64 0, .float .f64 y, .string ⟨#[]⟩, .slice none 0 0, .int .i64 0, .bool false, .int .u64 0]) w) := by
  have H1 := Lib.hid (div1_float l r y hl h0 h1 hm hy)
  clear hm h1 h0 hy
  go_enter Tryz.func5, Tryz.ntmps5
  go_wp2_with (first | (go_at_call 13; go_in) | (go_at_call 18; go_in) | (go_at_call 19; refine (H1.out _).mono ?_; rintro e w' ⟨rfl, rfl⟩) | (go_at_call 12; refine (classify_f64 _ _).mono ?_; rintro e w1 ⟨rfl, hb⟩; obtain ⟨hc, hf⟩ := bcell hb))
  exact bodyPost_ret (v := .agg #[.int .i64 3, .int .i64 0, .float .f64 y, .string ⟨#[]⟩, .slice none 0 0, .int .i64 0, .bool false, .int .u64 0]) (by simp [results, Tryz.results5, go_sem, hc]) rfl ⟨rfl, below8 (((Below.refl _ _).alloc (Nat.le_refl _) _).trans (hb.mono (by simp))) _ (Nat.le_refl _) _ _ _ _ _ _ _ _⟩
set_option maxRecDepth 100000 in
theorem div2_zero (x z : Nat) (hz : (FloatKind.f64.format.order z 0 == some .eq) = true) (w : World) : Calls Tryz.prog 21 #[.float .f64 x, .float .f64 z] w (ErrPost 46 w) := by
  go_enter Tryz.func21, Tryz.ntmps21
  go_wp2
  go_ret
  exact ⟨_, rfl, (Below.refl _ _).alloc (Nat.le_refl _) _⟩
set_option maxRecDepth 100000 in
theorem div2_any (x z y : Nat) (hz : (FloatKind.f64.format.order z 0 == some .eq) = false) (hy : Ieee.double.div x z = some y) (w : World) : Calls Tryz.prog 21 #[.float .f64 x, .float .f64 z] w (Ret (.iface 22 (.float .f64 y)) w) := by
  have hop : ∀ t w, (binOp .quo t (.float .f64 x) (.float .f64 z)).run Tryz.prog w = .ok (.float .f64 y) w := fun t w => run_float_arith w .quo t .f64 _ _ _ hy
  clear hy
  go_enter Tryz.func21, Tryz.ntmps21
  go_wp2
  go_ret
  exact ⟨rfl, rfl⟩
end Go.Proofs.YtfmjeacjfnlhiaaGreatDoor

