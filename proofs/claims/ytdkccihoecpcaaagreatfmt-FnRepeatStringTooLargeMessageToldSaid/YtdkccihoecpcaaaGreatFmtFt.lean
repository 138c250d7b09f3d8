/- A float's text by ftoa64, appended to the encoder's empty buffer: walked. Conditions: finite; the tables lie as the row lists them. -/
import Derived.Test.YtdkccihoecpcaaaGreatFmtFmJ
import Derived.Test.YtdkccihoecpcaaaGreatFmtP10
import Derived.Test.YtdkccihoecpcaaaGreatFmtModfPlain
import Derived.Deep.RegionWith
namespace Go.Proofs.YtdkccihoecpcaaaGreatFmt
open Go.RowKit Go
@[go_sem] theorem run_sbits (b : Nat) (w : World) : (callFunc 125 #[.float .f64 b]).run Tryz.prog w = .ok (.value (.int .u64 b)) w := by
  rw [run_callFunc_extern Tryz.func125 (by kernel_rfl) (by kernel_rfl) (by kernel_rfl) (e := Extern.MathFloatBits.float64bits) (by kernel_rfl)]
  rfl
theorem dec_nz (n : Nat) (h : 1 ≤ n) : ∃ x, x ∈ Lib.decDigits n ∧ x ≠ 48 := by
  induction n using Nat.strongRecOn with
  | _ n ih =>
    rw [Lib.decDigits]
    split
    · rename_i hl
      have h9 : n = 1 ∨ n = 2 ∨ n = 3 ∨ n = 4 ∨ n = 5 ∨ n = 6 ∨ n = 7 ∨ n = 8 ∨ n = 9 := by omega
      rcases h9 with rfl | rfl | rfl | rfl | rfl | rfl | rfl | rfl | rfl <;> exact ⟨_, List.mem_singleton.2 rfl, by decide⟩
    · obtain ⟨x, hx, hn⟩ := ih (n / 10) (by omega) (by omega)
      exact ⟨x, List.mem_append_left _ hx, hn⟩
theorem trim_pos (u : Nat) (h : 1 ≤ u) : 0 < (trim (Lib.decDigits u)).length := by
  obtain ⟨x, hx, hn⟩ := dec_nz u h
  apply Nat.pos_of_ne_zero
  intro e
  have e2 := List.eq_nil_of_length_eq_zero e
  unfold trim at e2
  rw [List.reverse_eq_nil_iff] at e2
  have h2 : ∀ (l : List UInt8), l.dropWhile (· == 48) = [] → ∀ y ∈ l, y = 48 := by
    intro l
    induction l with
    | nil => intro _ y hy; cases hy
    | cons a t ih =>
      intro h y hy
      by_cases ha : a = 48
      · subst ha
        rw [List.dropWhile_cons_of_pos (by decide)] at h
        rcases List.mem_cons.1 hy with rfl | hy
        · rfl
        · exact ih h y hy
      · rw [List.dropWhile_cons_of_neg (by simpa using ha)] at h
        cases h
  exact hn (h2 _ e2 x (List.mem_reverse.2 hx))
theorem trim_le (l : List UInt8) : (trim l).length ≤ l.length := by
  unfold trim
  rw [List.length_reverse]
  have := (List.dropWhile_sublist (l := l.reverse) (· == 48)).length_le
  rwa [List.length_reverse] at this
theorem touch_weak {S : List Nat} {w w' : World} (h : Touch [] w w') : Touch S w w' := ⟨h.os, h.tape, h.output, h.size, fun k hk _ => h.block k hk (by simp)⟩
theorem trim_pre (l : List UInt8) : ∃ q, l = trim l ++ List.replicate q 48 := by
  unfold trim
  have h : ∀ (l : List UInt8), ∃ q, l = List.replicate q 48 ++ l.dropWhile (· == 48) := by
    intro l
    induction l with
    | nil => exact ⟨0, rfl⟩
    | cons a t ih =>
      by_cases ha : a = 48
      · subst ha
        obtain ⟨q, hq⟩ := ih
        refine ⟨q + 1, ?_⟩
        rw [List.dropWhile_cons_of_pos (by decide), List.replicate_succ, List.cons_append, ← hq]
      · exact ⟨0, by rw [List.dropWhile_cons_of_neg (by simpa using ha)]; rfl⟩
  obtain ⟨q, hq⟩ := h l.reverse
  refine ⟨q, ?_⟩
  have e := congrArg List.reverse hq
  rw [List.reverse_reverse, List.reverse_append, List.reverse_replicate] at e
  exact e
theorem digs_trim {bb : Nat} {D l : List UInt8} {w : World} (h : Digs32 bb l w) (hD : D = trim l) : Digs32 bb D w := by
  obtain ⟨q, hq⟩ := trim_pre l
  rw [← hD] at hq
  intro j hj
  have h2 : j < l.length := by rw [hq, List.length_append]; omega
  have e : D[j]'hj = l[j]'h2 := by
    have e2 : l[j]? = some (D[j]'hj) := by rw [hq, List.getElem?_append_left hj]; exact List.getElem?_eq_getElem hj
    rw [List.getElem?_eq_getElem h2] at e2
    exact (Option.some.inj e2).symm
  rw [e]
  exact h j h2
theorem bl_aux (f x : Nat) (h : x < 2 ^ f) : Lib.bitLenAux f x = bl x := by
  induction f generalizing x with
  | zero =>
    have : x = 0 := by simpa using h
    subst this
    rfl
  | succ f ih =>
    unfold Lib.bitLenAux bl
    by_cases h0 : x = 0
    · rw [if_pos h0, if_pos h0]
    · rw [if_neg h0, if_neg h0, ih (x / 2) (by rw [Nat.pow_succ] at h; omega)]
      unfold bl
      rw [Nat.log2_def x]
      by_cases h1 : x / 2 = 0
      · rw [if_pos h1, if_neg (by omega)]
      · rw [if_neg h1, if_pos (by omega)]
        omega
theorem bitLen_bl (n : Nat) (h : n < 18446744073709551616) : Lib.bitLen n = bl n := bl_aux 64 n h
set_option maxRecDepth 100000 in
set_option maxHeartbeats 6400000 in
theorem ftoa_fpr (B eb r b : Nat) (hb : b = r) (cur : Array Value) (w : World) (hd : Dst eb cur [] w) (h0 : 0 < r) (hr : r < Ieee.double.infRung) (hs : ¬ r < E52) (hp1 : -30 ≤ fP r) (hp2 : fP r ≤ 30) (hP : ∀ W, Below w.heap.size w W → P10 B W) (hT : ∀ W, Below w.heap.size w W → Lib.TabIs Tryz.prog W "internal/strconv.uint64pow10" .u64 Lib.pow10Tab) :
    Calls Tryz.prog 89 #[.slice (some ⟨eb, 1, none⟩) 0 64, .float .f64 b, .int .u8 102, .int .i64 (-1)] w (FmtPost eb cur (fmF false (fD r) (fP r)) w) := by
  rw [d_inf] at hr
  have hneg : (b : Int) / 9223372036854775808 = 0 := by omega
  obtain ⟨Q, hQ⟩ : ∃ Q, Q = b / 4503599627370496 := ⟨_, rfl⟩
  obtain ⟨E, hE⟩ : ∃ E, E = r / 4503599627370496 := ⟨_, rfl⟩
  obtain ⟨M, hM⟩ : ∃ M, M = r % 4503599627370496 := ⟨_, rfl⟩
  have q1 : (b : Int) / 4503599627370496 = (Q : Int) := by omega
  have qb : Q < 4096 := by omega
  have hand : bits .and .i64 (Q : Int) 2047 = (E : Int) := by
    have h := and_i64_nat Q 2047 (by omega) (by omega)
    rw [show Q &&& 2047 = Q % 2048 from Nat.and_two_pow_sub_one_eq_mod Q 11, show Q % 2048 = E from by omega] at h
    exact h
  have hmant : bits .and .u64 (b : Int) 4503599627370495 = (M : Int) := by
    have h := bits_and_u64_nat b 4503599627370495 (by omega) (by omega)
    rw [show b &&& 4503599627370495 = b % 4503599627370496 from Nat.and_two_pow_sub_one_eq_mod b 52, show b % 4503599627370496 = M from by omega] at h
    exact h
  have hE2 : ((E : Int) == 2047) = false := by rw [beq_eq_false_iff_ne]; omega
  have e52 : E52 = 4503599627370496 := rfl
  have hE0 : ((E : Int) == 0) = false := by rw [beq_eq_false_iff_ne]; omega
  obtain ⟨N, hN⟩ : ∃ N, N = M + 4503599627370496 := ⟨_, rfl⟩
  have hor : bits .or .u64 (M : Int) 4503599627370496 = (N : Int) := by
    have h := bits_or_u64_nat M 4503599627370496 (by omega) (by omega)
    rw [Nat.or_comm, show 4503599627370496 ||| M = N from by
      have h2 := Nat.two_pow_add_eq_or_of_lt (i := 52) (b := M) (by omega) 1
      rw [Nat.mul_one] at h2
      rw [hN, Nat.add_comm]
      exact h2.symm] at h
    exact h
  have HM := Lib.hid (show mg r = N from by unfold mg; rw [if_neg hs]; simp only [e52]; omega)
  have hm0 : ((N : Int) == 0) = false := by rw [beq_eq_false_iff_ne]; omega
  have HX := Lib.hid (show pl r = (E : Int) - 1075 from by unfold pl; rw [if_neg hs]; simp only [e52]; omega)
  have mlt : N < 18446744073709551616 := by omega
  have HB := Lib.hid hb
  have HG := Lib.hid (fM_good h0 (by rw [d_inf]; exact hr))
  have HD := Lib.hid hd
  obtain ⟨bl1, bl2, _, _⟩ := bl_bd h0
  obtain ⟨L, hL⟩ : ∃ L, L = bl (mg r) := ⟨_, rfl⟩
  obtain ⟨k, hk⟩ : ∃ k, k = 64 - L := ⟨_, rfl⟩
  have hlk : (64 : Int) - (L : Int) = (k : Int) := by omega
  have hk64 : k ≤ 63 := by omega
  have E2047 : E < 2047 := by omega
  have HLen := Lib.hid (show ∀ w, Calls Tryz.prog 112 #[.int .u64 (N : Int)] w (Ret (.int .i64 (L : Int)) w) from fun w => (Tryz.bits_Len64 (N : Int) w (by omega) (by omega)).mono (by
    rintro e w' ⟨rfl, rfl⟩
    rw [Int.toNat_natCast, bitLen_bl N mlt, hL, HM.out]
    exact ⟨rfl, rfl⟩))
  obtain ⟨m0, hm⟩ : ∃ m0, m0 = fM r := ⟨_, rfl⟩
  obtain ⟨e0, he⟩ : ∃ e0, e0 = fE r := ⟨_, rfl⟩
  have hmv : m0 = N * 2 ^ k := by rw [hm]; unfold fM; rw [HM.out, hk, hL, HM.out]
  rw [← hm, ← he] at HG
  have mw : IntKind.u64.wrap ((N : Int) * 2 ^ k) = (m0 : Int) := by
    have h := HG.out.r.hi
    rw [IntKind.wrap_u64, hmv]
    have e : ((N * 2 ^ k : Nat) : Int) = (N : Int) * 2 ^ k := by rw [Int.natCast_mul, Int.natCast_pow]; rfl
    rw [← e]
    omega
  have ew : (E : Int) + -1023 - (k : Int) - 52 = e0 := by rw [he]; unfold fE; rw [HX.out, ← hL, ← hk]; omega
  obtain ⟨u, hu⟩ : ∃ u, u = shD m0 e0 := ⟨_, rfl⟩
  obtain ⟨v, hv⟩ : ∃ v, v = shP m0 e0 := ⟨_, rfl⟩
  obtain ⟨u1, u2⟩ := shD_bd HG.out
  obtain ⟨v1, v2⟩ := shP_bd HG.out
  rw [← hu] at u1 u2
  rw [← hv] at v1 v2
  obtain ⟨D, hDe⟩ : ∃ D, D = fD r := ⟨_, rfl⟩
  have hDe2 : D = trim (Lib.decDigits u) := by rw [hDe, hu, hm, he]; rfl
  obtain ⟨dp, hdp⟩ : ∃ dp, dp = fP r := ⟨_, rfl⟩
  have hdp2 : ((Lib.decDigits u).length : Int) + v = dp := by rw [hdp, hv, hu, hm, he]; rfl
  have hln := dd_len u (by omega)
  have hD1 : 0 < D.length := by rw [hDe2]; exact trim_pos u u1
  have hD2 : D.length ≤ 20 := by rw [hDe2]; exact Nat.le_trans (trim_le _) hln
  have hdl : 1 ≤ (Lib.decDigits u).length := dec_len_pos u
  have hdpb : -390 ≤ dp ∧ dp ≤ 390 := by omega
  rw [← hDe, ← hdp]
  have HSh := Lib.hid (fun (W : World) (h : Below w.heap.size w W) => short_any B m0 e0 W HG.out (hP W h))
  have HNu := Lib.hid (fun (W : World) (h : Below w.heap.size w W) => Tryz.internal_strconv_numDigits u u1 (by omega) W (hT W h))
  have HW := Lib.hid (show ∀ n, Below w.heap.size w ((w.drewN n).alloc (Obj.cells #[.int .u8 0, .int .u8 0, .int .u8 0, .int .u8 0, .int .u8 0, .int .u8 0, .int .u8 0, .int .u8 0, .int .u8 0, .int .u8 0, .int .u8 0, .int .u8 0, .int .u8 0, .int .u8 0, .int .u8 0, .int .u8 0, .int .u8 0, .int .u8 0, .int .u8 0, .int .u8 0, .int .u8 0, .int .u8 0, .int .u8 0, .int .u8 0, .int .u8 0, .int .u8 0, .int .u8 0, .int .u8 0, .int .u8 0, .int .u8 0, .int .u8 0, .int .u8 0] 188)) ∧ ((w.drewN n).alloc (Obj.cells #[.int .u8 0, .int .u8 0, .int .u8 0, .int .u8 0, .int .u8 0, .int .u8 0, .int .u8 0, .int .u8 0, .int .u8 0, .int .u8 0, .int .u8 0, .int .u8 0, .int .u8 0, .int .u8 0, .int .u8 0, .int .u8 0, .int .u8 0, .int .u8 0, .int .u8 0, .int .u8 0, .int .u8 0, .int .u8 0, .int .u8 0, .int .u8 0, .int .u8 0, .int .u8 0, .int .u8 0, .int .u8 0, .int .u8 0, .int .u8 0, .int .u8 0, .int .u8 0] 188)).heap[w.heap.size]? = some (.cells (Array.replicate 32 (.int .u8 0)) 188 (0, 0)) ∧ w.heap.size < ((w.drewN n).alloc (Obj.cells #[.int .u8 0, .int .u8 0, .int .u8 0, .int .u8 0, .int .u8 0, .int .u8 0, .int .u8 0, .int .u8 0, .int .u8 0, .int .u8 0, .int .u8 0, .int .u8 0, .int .u8 0, .int .u8 0, .int .u8 0, .int .u8 0, .int .u8 0, .int .u8 0, .int .u8 0, .int .u8 0, .int .u8 0, .int .u8 0, .int .u8 0, .int .u8 0, .int .u8 0, .int .u8 0, .int .u8 0, .int .u8 0, .int .u8 0, .int .u8 0, .int .u8 0, .int .u8 0] 188)).heap.size from fun n => ⟨Below.alloc (show Below w.heap.size w (w.drewN n) from ⟨rfl, rfl, rfl, Nat.le_refl _, fun _ _ => rfl⟩) (Nat.le_refl _) _, by
    rw [show (Array.replicate 32 (Value.int .u8 0)) = #[.int .u8 0, .int .u8 0, .int .u8 0, .int .u8 0, .int .u8 0, .int .u8 0, .int .u8 0, .int .u8 0, .int .u8 0, .int .u8 0, .int .u8 0, .int .u8 0, .int .u8 0, .int .u8 0, .int .u8 0, .int .u8 0, .int .u8 0, .int .u8 0, .int .u8 0, .int .u8 0, .int .u8 0, .int .u8 0, .int .u8 0, .int .u8 0, .int .u8 0, .int .u8 0, .int .u8 0, .int .u8 0, .int .u8 0, .int .u8 0, .int .u8 0, .int .u8 0] from rfl]
    show (w.heap.push _)[w.heap.size]? = _
    simp, by
    show w.heap.size < (w.heap.push _).size
    simp⟩)
  rw [← hdp] at hp1 hp2
  rw [← hu, ← hv] at HSh
  have HSd := Lib.hid (show ∀ W : World, W.heap[w.heap.size]? = some (.cells (Array.replicate 32 (.int .u8 0)) 188 (0, 0)) → Calls Tryz.prog 130 #[.slice (some ⟨w.heap.size, 0, none⟩) 32 32, .int .u64 (u : Int), .int .i64 v, .int .i64 (Lib.nDigits u : Int)] W
      (fun e w' => e = .returned (.tuple #[.int .i64 dp, .int .i64 (D.length : Int)]) ∧ Digs32 w.heap.size D w' ∧ Touch [w.heap.size] W w') from fun W h => (setDigits_any w.heap.size u v _ W h u1 (by omega) (by omega) (by omega)).mono (by
    rintro e w' ⟨rfl, h1, h2⟩
    rw [hdp2, ← hDe2]
    exact ⟨rfl, digs_trim h1 hDe2, h2⟩))
  have HUd := Lib.hid hDe2
  have HDp := Lib.hid hdp2
  clear hP hT hm he hmv hu hv hDe hDe2 hdp hdp2 hln hdl
  have HL := Lib.hid hL
  have HK := Lib.hid hk
  clear hb hQ hE hM e52 hd hN hL hk bl1 bl2
  go_enter Tryz.func89, Tryz.ntmps89
  go_wp2
  go_quiet (fail)
  go_wp2_with (go_at_call 112; refine (HLen.out _).mono ?_; rintro e w' ⟨rfl, rfl⟩)
  try go_at_call 135
  refine (HSh.out ((w.drewN _).alloc _) (HW.out _).1).mono ?_
  rintro e w1 ⟨rfl, hb1⟩
  have HB1 := Lib.hid (show Below w.heap.size w w1 ∧ w1.heap[w.heap.size]? = some (.cells (Array.replicate 32 (.int .u8 0)) 188 (0, 0)) from ⟨(HW.out _).1.trans (hb1.mono (HW.out _).1.size), (hb1.block _ (HW.out _).2.2).trans (HW.out _).2.1⟩)
  clear hb1 HW
  go_wp2
  go_region_with (first
    | (go_at_call 85; refine (HNu.out _ (show Below w.heap.size w (w1.drewN 1) from HB1.out.1.trans ⟨rfl, rfl, rfl, Nat.le_refl _, fun _ _ => rfl⟩)).mono ?_; rintro e w' ⟨rfl, rfl⟩)
    | (go_at_call 130; refine (HSd.out (w1.drewN 1) HB1.out.2).mono ?_; rintro e w2 ⟨rfl, hdg, ht2⟩))
  all_goals (
    have hb2 : Below w.heap.size w w2 := (show Below w.heap.size w (w1.drewN 1) from HB1.out.1.trans ⟨rfl, rfl, rfl, Nat.le_refl _, fun _ _ => rfl⟩).trans (Touch.below ht2 (by simp) HB1.out.1.size)
    have HT2 := Lib.hid (touch_weak (S := [eb]) (Touch.of_below hb2))
    have hd2 := dst_touch HD.out (Touch.of_below hb2) (by simp)
    have hlt := Lib.lt_of_heap HD.out.1
    clear hb2 ht2
    go_wp2_with fail
    try go_at_call 128
    refine (fmtF false eb w.heap.size dp cur D w2 hd2 hdg (by omega) hD1 hD2 (by omega) (by omega)).mono ?_
    rintro e w3 ⟨rfl, hd3, ht3⟩
    have HF3 := Lib.hid (show Dst eb cur _ w3 ∧ Touch [eb] w w3 from ⟨hd3, HT2.out.trans ht3⟩)
    clear hd3 ht3 hd2 hdg
    go_wp2
    go_ret
    exact ⟨rfl, HF3.out⟩)
set_option maxRecDepth 100000 in
set_option maxHeartbeats 6400000 in
theorem ftoa_epr (B eb r b : Nat) (hb : b = r) (cur : Array Value) (w : World) (hd : Dst eb cur [] w) (h0 : 0 < r) (hr : r < Ieee.double.infRung) (hs : ¬ r < E52) (hP : ∀ W, Below w.heap.size w W → P10 B W) (hT : ∀ W, Below w.heap.size w W → Lib.TabIs Tryz.prog W "internal/strconv.uint64pow10" .u64 Lib.pow10Tab) :
    Calls Tryz.prog 89 #[.slice (some ⟨eb, 1, none⟩) 0 64, .float .f64 b, .int .u8 101, .int .i64 (-1)] w (FmtPost eb cur (fmE false (fD r) (fP r)) w) := by
  rw [d_inf] at hr
  have hneg : (b : Int) / 9223372036854775808 = 0 := by omega
  obtain ⟨Q, hQ⟩ : ∃ Q, Q = b / 4503599627370496 := ⟨_, rfl⟩
  obtain ⟨E, hE⟩ : ∃ E, E = r / 4503599627370496 := ⟨_, rfl⟩
  obtain ⟨M, hM⟩ : ∃ M, M = r % 4503599627370496 := ⟨_, rfl⟩
  have q1 : (b : Int) / 4503599627370496 = (Q : Int) := by omega
  have qb : Q < 4096 := by omega
  have hand : bits .and .i64 (Q : Int) 2047 = (E : Int) := by
    have h := and_i64_nat Q 2047 (by omega) (by omega)
    rw [show Q &&& 2047 = Q % 2048 from Nat.and_two_pow_sub_one_eq_mod Q 11, show Q % 2048 = E from by omega] at h
    exact h
  have hmant : bits .and .u64 (b : Int) 4503599627370495 = (M : Int) := by
    have h := bits_and_u64_nat b 4503599627370495 (by omega) (by omega)
    rw [show b &&& 4503599627370495 = b % 4503599627370496 from Nat.and_two_pow_sub_one_eq_mod b 52, show b % 4503599627370496 = M from by omega] at h
    exact h
  have hE2 : ((E : Int) == 2047) = false := by rw [beq_eq_false_iff_ne]; omega
  have e52 : E52 = 4503599627370496 := rfl
  have hE0 : ((E : Int) == 0) = false := by rw [beq_eq_false_iff_ne]; omega
  obtain ⟨N, hN⟩ : ∃ N, N = M + 4503599627370496 := ⟨_, rfl⟩
  have hor : bits .or .u64 (M : Int) 4503599627370496 = (N : Int) := by
    have h := bits_or_u64_nat M 4503599627370496 (by omega) (by omega)
    rw [Nat.or_comm, show 4503599627370496 ||| M = N from by
      have h2 := Nat.two_pow_add_eq_or_of_lt (i := 52) (b := M) (by omega) 1
      rw [Nat.mul_one] at h2
      rw [hN, Nat.add_comm]
      exact h2.symm] at h
    exact h
  have HM := Lib.hid (show mg r = N from by unfold mg; rw [if_neg hs]; simp only [e52]; omega)
  have hm0 : ((N : Int) == 0) = false := by rw [beq_eq_false_iff_ne]; omega
  have HX := Lib.hid (show pl r = (E : Int) - 1075 from by unfold pl; rw [if_neg hs]; simp only [e52]; omega)
  have mlt : N < 18446744073709551616 := by omega
  have HB := Lib.hid hb
  have HG := Lib.hid (fM_good h0 (by rw [d_inf]; exact hr))
  have HD := Lib.hid hd
  obtain ⟨bl1, bl2, _, _⟩ := bl_bd h0
  obtain ⟨L, hL⟩ : ∃ L, L = bl (mg r) := ⟨_, rfl⟩
  obtain ⟨k, hk⟩ : ∃ k, k = 64 - L := ⟨_, rfl⟩
  have hlk : (64 : Int) - (L : Int) = (k : Int) := by omega
  have hk64 : k ≤ 63 := by omega
  have E2047 : E < 2047 := by omega
  have HLen := Lib.hid (show ∀ w, Calls Tryz.prog 112 #[.int .u64 (N : Int)] w (Ret (.int .i64 (L : Int)) w) from fun w => (Tryz.bits_Len64 (N : Int) w (by omega) (by omega)).mono (by
    rintro e w' ⟨rfl, rfl⟩
    rw [Int.toNat_natCast, bitLen_bl N mlt, hL, HM.out]
    exact ⟨rfl, rfl⟩))
  obtain ⟨m0, hm⟩ : ∃ m0, m0 = fM r := ⟨_, rfl⟩
  obtain ⟨e0, he⟩ : ∃ e0, e0 = fE r := ⟨_, rfl⟩
  have hmv : m0 = N * 2 ^ k := by rw [hm]; unfold fM; rw [HM.out, hk, hL, HM.out]
  rw [← hm, ← he] at HG
  have mw : IntKind.u64.wrap ((N : Int) * 2 ^ k) = (m0 : Int) := by
    have h := HG.out.r.hi
    rw [IntKind.wrap_u64, hmv]
    have e : ((N * 2 ^ k : Nat) : Int) = (N : Int) * 2 ^ k := by rw [Int.natCast_mul, Int.natCast_pow]; rfl
    rw [← e]
    omega
  have ew : (E : Int) + -1023 - (k : Int) - 52 = e0 := by rw [he]; unfold fE; rw [HX.out, ← hL, ← hk]; omega
  obtain ⟨u, hu⟩ : ∃ u, u = shD m0 e0 := ⟨_, rfl⟩
  obtain ⟨v, hv⟩ : ∃ v, v = shP m0 e0 := ⟨_, rfl⟩
  obtain ⟨u1, u2⟩ := shD_bd HG.out
  obtain ⟨v1, v2⟩ := shP_bd HG.out
  rw [← hu] at u1 u2
  rw [← hv] at v1 v2
  obtain ⟨D, hDe⟩ : ∃ D, D = fD r := ⟨_, rfl⟩
  have hDe2 : D = trim (Lib.decDigits u) := by rw [hDe, hu, hm, he]; rfl
  obtain ⟨dp, hdp⟩ : ∃ dp, dp = fP r := ⟨_, rfl⟩
  have hdp2 : ((Lib.decDigits u).length : Int) + v = dp := by rw [hdp, hv, hu, hm, he]; rfl
  have hln := dd_len u (by omega)
  have hD1 : 0 < D.length := by rw [hDe2]; exact trim_pos u u1
  have hD2 : D.length ≤ 20 := by rw [hDe2]; exact Nat.le_trans (trim_le _) hln
  have hdl : 1 ≤ (Lib.decDigits u).length := dec_len_pos u
  have hdpb : -390 ≤ dp ∧ dp ≤ 390 := by omega
  rw [← hDe, ← hdp]
  have HSh := Lib.hid (fun (W : World) (h : Below w.heap.size w W) => short_any B m0 e0 W HG.out (hP W h))
  have HNu := Lib.hid (fun (W : World) (h : Below w.heap.size w W) => Tryz.internal_strconv_numDigits u u1 (by omega) W (hT W h))
  have HW := Lib.hid (show ∀ n, Below w.heap.size w ((w.drewN n).alloc (Obj.cells #[.int .u8 0, .int .u8 0, .int .u8 0, .int .u8 0, .int .u8 0, .int .u8 0, .int .u8 0, .int .u8 0, .int .u8 0, .int .u8 0, .int .u8 0, .int .u8 0, .int .u8 0, .int .u8 0, .int .u8 0, .int .u8 0, .int .u8 0, .int .u8 0, .int .u8 0, .int .u8 0, .int .u8 0, .int .u8 0, .int .u8 0, .int .u8 0, .int .u8 0, .int .u8 0, .int .u8 0, .int .u8 0, .int .u8 0, .int .u8 0, .int .u8 0, .int .u8 0] 188)) ∧ ((w.drewN n).alloc (Obj.cells #[.int .u8 0, .int .u8 0, .int .u8 0, .int .u8 0, .int .u8 0, .int .u8 0, .int .u8 0, .int .u8 0, .int .u8 0, .int .u8 0, .int .u8 0, .int .u8 0, .int .u8 0, .int .u8 0, .int .u8 0, .int .u8 0, .int .u8 0, .int .u8 0, .int .u8 0, .int .u8 0, .int .u8 0, .int .u8 0, .int .u8 0, .int .u8 0, .int .u8 0, .int .u8 0, .int .u8 0, .int .u8 0, .int .u8 0, .int .u8 0, .int .u8 0, .int .u8 0] 188)).heap[w.heap.size]? = some (.cells (Array.replicate 32 (.int .u8 0)) 188 (0, 0)) ∧ w.heap.size < ((w.drewN n).alloc (Obj.cells #[.int .u8 0, .int .u8 0, .int .u8 0, .int .u8 0, .int .u8 0, .int .u8 0, .int .u8 0, .int .u8 0, .int .u8 0, .int .u8 0, .int .u8 0, .int .u8 0, .int .u8 0, .int .u8 0, .int .u8 0, .int .u8 0, .int .u8 0, .int .u8 0, .int .u8 0, .int .u8 0, .int .u8 0, .int .u8 0, .int .u8 0, .int .u8 0, .int .u8 0, .int .u8 0, .int .u8 0, .int .u8 0, .int .u8 0, .int .u8 0, .int .u8 0, .int .u8 0] 188)).heap.size from fun n => ⟨Below.alloc (show Below w.heap.size w (w.drewN n) from ⟨rfl, rfl, rfl, Nat.le_refl _, fun _ _ => rfl⟩) (Nat.le_refl _) _, by
    rw [show (Array.replicate 32 (Value.int .u8 0)) = #[.int .u8 0, .int .u8 0, .int .u8 0, .int .u8 0, .int .u8 0, .int .u8 0, .int .u8 0, .int .u8 0, .int .u8 0, .int .u8 0, .int .u8 0, .int .u8 0, .int .u8 0, .int .u8 0, .int .u8 0, .int .u8 0, .int .u8 0, .int .u8 0, .int .u8 0, .int .u8 0, .int .u8 0, .int .u8 0, .int .u8 0, .int .u8 0, .int .u8 0, .int .u8 0, .int .u8 0, .int .u8 0, .int .u8 0, .int .u8 0, .int .u8 0, .int .u8 0] from rfl]
    show (w.heap.push _)[w.heap.size]? = _
    simp, by
    show w.heap.size < (w.heap.push _).size
    simp⟩)
  rw [← hu, ← hv] at HSh
  have HSd := Lib.hid (show ∀ W : World, W.heap[w.heap.size]? = some (.cells (Array.replicate 32 (.int .u8 0)) 188 (0, 0)) → Calls Tryz.prog 130 #[.slice (some ⟨w.heap.size, 0, none⟩) 32 32, .int .u64 (u : Int), .int .i64 v, .int .i64 (Lib.nDigits u : Int)] W
      (fun e w' => e = .returned (.tuple #[.int .i64 dp, .int .i64 (D.length : Int)]) ∧ Digs32 w.heap.size D w' ∧ Touch [w.heap.size] W w') from fun W h => (setDigits_any w.heap.size u v _ W h u1 (by omega) (by omega) (by omega)).mono (by
    rintro e w' ⟨rfl, h1, h2⟩
    rw [hdp2, ← hDe2]
    exact ⟨rfl, digs_trim h1 hDe2, h2⟩))
  have HUd := Lib.hid hDe2
  have HDp := Lib.hid hdp2
  clear hP hT hm he hmv hu hv hDe hDe2 hdp hdp2 hln hdl
  have HL := Lib.hid hL
  have HK := Lib.hid hk
  clear hb hQ hE hM e52 hd hN hL hk bl1 bl2
  go_enter Tryz.func89, Tryz.ntmps89
  go_wp2
  go_quiet (fail)
  go_wp2_with (go_at_call 112; refine (HLen.out _).mono ?_; rintro e w' ⟨rfl, rfl⟩)
  try go_at_call 135
  refine (HSh.out ((w.drewN _).alloc _) (HW.out _).1).mono ?_
  rintro e w1 ⟨rfl, hb1⟩
  have HB1 := Lib.hid (show Below w.heap.size w w1 ∧ w1.heap[w.heap.size]? = some (.cells (Array.replicate 32 (.int .u8 0)) 188 (0, 0)) from ⟨(HW.out _).1.trans (hb1.mono (HW.out _).1.size), (hb1.block _ (HW.out _).2.2).trans (HW.out _).2.1⟩)
  clear hb1 HW
  go_wp2
  go_region_with (first
    | (go_at_call 85; refine (HNu.out _ (show Below w.heap.size w (w1.drewN 1) from HB1.out.1.trans ⟨rfl, rfl, rfl, Nat.le_refl _, fun _ _ => rfl⟩)).mono ?_; rintro e w' ⟨rfl, rfl⟩)
    | (go_at_call 130; refine (HSd.out (w1.drewN 1) HB1.out.2).mono ?_; rintro e w2 ⟨rfl, hdg, ht2⟩))
  all_goals (
    have hb2 : Below w.heap.size w w2 := (show Below w.heap.size w (w1.drewN 1) from HB1.out.1.trans ⟨rfl, rfl, rfl, Nat.le_refl _, fun _ _ => rfl⟩).trans (Touch.below ht2 (by simp) HB1.out.1.size)
    have HT2 := Lib.hid (touch_weak (S := [eb]) (Touch.of_below hb2))
    have hd2 := dst_touch HD.out (Touch.of_below hb2) (by simp)
    have hlt := Lib.lt_of_heap HD.out.1
    clear hb2 ht2
    go_wp2_with fail
    try go_at_call 128
    refine (fmtE false eb w.heap.size dp cur D w2 hd2 hdg (by omega) hD1 hD2 (by omega) (by omega)).mono ?_
    rintro e w3 ⟨rfl, hd3, ht3⟩
    have HF3 := Lib.hid (show Dst eb cur _ w3 ∧ Touch [eb] w w3 from ⟨hd3, HT2.out.trans ht3⟩)
    clear hd3 ht3 hd2 hdg
    go_wp2
    go_ret
    exact ⟨rfl, HF3.out⟩)
set_option maxRecDepth 100000 in
set_option maxHeartbeats 6400000 in
theorem ftoa_fps (B eb r b : Nat) (hb : b = r) (cur : Array Value) (w : World) (hd : Dst eb cur [] w) (h0 : 0 < r) (hr : r < Ieee.double.infRung) (hs : r < E52) (hp1 : -30 ≤ fP r) (hp2 : fP r ≤ 30) (hP : ∀ W, Below w.heap.size w W → P10 B W) (hT : ∀ W, Below w.heap.size w W → Lib.TabIs Tryz.prog W "internal/strconv.uint64pow10" .u64 Lib.pow10Tab) :
    Calls Tryz.prog 89 #[.slice (some ⟨eb, 1, none⟩) 0 64, .float .f64 b, .int .u8 102, .int .i64 (-1)] w (FmtPost eb cur (fmF false (fD r) (fP r)) w) := by
  rw [d_inf] at hr
  have hneg : (b : Int) / 9223372036854775808 = 0 := by omega
  obtain ⟨Q, hQ⟩ : ∃ Q, Q = b / 4503599627370496 := ⟨_, rfl⟩
  obtain ⟨E, hE⟩ : ∃ E, E = r / 4503599627370496 := ⟨_, rfl⟩
  obtain ⟨M, hM⟩ : ∃ M, M = r % 4503599627370496 := ⟨_, rfl⟩
  have q1 : (b : Int) / 4503599627370496 = (Q : Int) := by omega
  have qb : Q < 4096 := by omega
  have hand : bits .and .i64 (Q : Int) 2047 = (E : Int) := by
    have h := and_i64_nat Q 2047 (by omega) (by omega)
    rw [show Q &&& 2047 = Q % 2048 from Nat.and_two_pow_sub_one_eq_mod Q 11, show Q % 2048 = E from by omega] at h
    exact h
  have hmant : bits .and .u64 (b : Int) 4503599627370495 = (M : Int) := by
    have h := bits_and_u64_nat b 4503599627370495 (by omega) (by omega)
    rw [show b &&& 4503599627370495 = b % 4503599627370496 from Nat.and_two_pow_sub_one_eq_mod b 52, show b % 4503599627370496 = M from by omega] at h
    exact h
  have hE2 : ((E : Int) == 2047) = false := by rw [beq_eq_false_iff_ne]; omega
  have e52 : E52 = 4503599627370496 := rfl
  have hE0 : ((E : Int) == 0) = true := by rw [beq_iff_eq]; omega
  have hEe : (E : Int) = 0 := by omega
  have HM := Lib.hid (show mg r = M from by unfold mg; rw [if_pos hs]; omega)
  have hm0 : ((M : Int) == 0) = false := by rw [beq_eq_false_iff_ne]; omega
  have HX := Lib.hid (show pl r = -1074 from by unfold pl; rw [if_pos hs])
  have mlt : M < 18446744073709551616 := by omega
  have HB := Lib.hid hb
  have HG := Lib.hid (fM_good h0 (by rw [d_inf]; exact hr))
  have HD := Lib.hid hd
  obtain ⟨bl1, bl2, _, _⟩ := bl_bd h0
  obtain ⟨L, hL⟩ : ∃ L, L = bl (mg r) := ⟨_, rfl⟩
  obtain ⟨k, hk⟩ : ∃ k, k = 64 - L := ⟨_, rfl⟩
  have hlk : (64 : Int) - (L : Int) = (k : Int) := by omega
  have hk64 : k ≤ 63 := by omega
  have E2047 : E < 2047 := by omega
  have HLen := Lib.hid (show ∀ w, Calls Tryz.prog 112 #[.int .u64 (M : Int)] w (Ret (.int .i64 (L : Int)) w) from fun w => (Tryz.bits_Len64 (M : Int) w (by omega) (by omega)).mono (by
    rintro e w' ⟨rfl, rfl⟩
    rw [Int.toNat_natCast, bitLen_bl M mlt, hL, HM.out]
    exact ⟨rfl, rfl⟩))
  obtain ⟨m0, hm⟩ : ∃ m0, m0 = fM r := ⟨_, rfl⟩
  obtain ⟨e0, he⟩ : ∃ e0, e0 = fE r := ⟨_, rfl⟩
  have hmv : m0 = M * 2 ^ k := by rw [hm]; unfold fM; rw [HM.out, hk, hL, HM.out]
  rw [← hm, ← he] at HG
  have mw : IntKind.u64.wrap ((M : Int) * 2 ^ k) = (m0 : Int) := by
    have h := HG.out.r.hi
    rw [IntKind.wrap_u64, hmv]
    have e : ((M * 2 ^ k : Nat) : Int) = (M : Int) * 2 ^ k := by rw [Int.natCast_mul, Int.natCast_pow]; rfl
    rw [← e]
    omega
  have ew : (-1022) - (k : Int) - 52 = e0 := by rw [he]; unfold fE; rw [HX.out, ← hL, ← hk]; omega
  obtain ⟨u, hu⟩ : ∃ u, u = shD m0 e0 := ⟨_, rfl⟩
  obtain ⟨v, hv⟩ : ∃ v, v = shP m0 e0 := ⟨_, rfl⟩
  obtain ⟨u1, u2⟩ := shD_bd HG.out
  obtain ⟨v1, v2⟩ := shP_bd HG.out
  rw [← hu] at u1 u2
  rw [← hv] at v1 v2
  obtain ⟨D, hDe⟩ : ∃ D, D = fD r := ⟨_, rfl⟩
  have hDe2 : D = trim (Lib.decDigits u) := by rw [hDe, hu, hm, he]; rfl
  obtain ⟨dp, hdp⟩ : ∃ dp, dp = fP r := ⟨_, rfl⟩
  have hdp2 : ((Lib.decDigits u).length : Int) + v = dp := by rw [hdp, hv, hu, hm, he]; rfl
  have hln := dd_len u (by omega)
  have hD1 : 0 < D.length := by rw [hDe2]; exact trim_pos u u1
  have hD2 : D.length ≤ 20 := by rw [hDe2]; exact Nat.le_trans (trim_le _) hln
  have hdl : 1 ≤ (Lib.decDigits u).length := dec_len_pos u
  have hdpb : -390 ≤ dp ∧ dp ≤ 390 := by omega
  rw [← hDe, ← hdp]
  have HSh := Lib.hid (fun (W : World) (h : Below w.heap.size w W) => short_any B m0 e0 W HG.out (hP W h))
  have HNu := Lib.hid (fun (W : World) (h : Below w.heap.size w W) => Tryz.internal_strconv_numDigits u u1 (by omega) W (hT W h))
  have HW := Lib.hid (show ∀ n, Below w.heap.size w ((w.drewN n).alloc (Obj.cells #[.int .u8 0, .int .u8 0, .int .u8 0, .int .u8 0, .int .u8 0, .int .u8 0, .int .u8 0, .int .u8 0, .int .u8 0, .int .u8 0, .int .u8 0, .int .u8 0, .int .u8 0, .int .u8 0, .int .u8 0, .int .u8 0, .int .u8 0, .int .u8 0, .int .u8 0, .int .u8 0, .int .u8 0, .int .u8 0, .int .u8 0, .int .u8 0, .int .u8 0, .int .u8 0, .int .u8 0, .int .u8 0, .int .u8 0, .int .u8 0, .int .u8 0, .int .u8 0] 188)) ∧ ((w.drewN n).alloc (Obj.cells #[.int .u8 0, .int .u8 0, .int .u8 0, .int .u8 0, .int .u8 0, .int .u8 0, .int .u8 0, .int .u8 0, .int .u8 0, .int .u8 0, .int .u8 0, .int .u8 0, .int .u8 0, .int .u8 0, .int .u8 0, .int .u8 0, .int .u8 0, .int .u8 0, .int .u8 0, .int .u8 0, .int .u8 0, .int .u8 0, .int .u8 0, .int .u8 0, .int .u8 0, .int .u8 0, .int .u8 0, .int .u8 0, .int .u8 0, .int .u8 0, .int .u8 0, .int .u8 0] 188)).heap[w.heap.size]? = some (.cells (Array.replicate 32 (.int .u8 0)) 188 (0, 0)) ∧ w.heap.size < ((w.drewN n).alloc (Obj.cells #[.int .u8 0, .int .u8 0, .int .u8 0, .int .u8 0, .int .u8 0, .int .u8 0, .int .u8 0, .int .u8 0, .int .u8 0, .int .u8 0, .int .u8 0, .int .u8 0, .int .u8 0, .int .u8 0, .int .u8 0, .int .u8 0, .int .u8 0, .int .u8 0, .int .u8 0, .int .u8 0, .int .u8 0, .int .u8 0, .int .u8 0, .int .u8 0, .int .u8 0, .int .u8 0, .int .u8 0, .int .u8 0, .int .u8 0, .int .u8 0, .int .u8 0, .int .u8 0] 188)).heap.size from fun n => ⟨Below.alloc (show Below w.heap.size w (w.drewN n) from ⟨rfl, rfl, rfl, Nat.le_refl _, fun _ _ => rfl⟩) (Nat.le_refl _) _, by
    rw [show (Array.replicate 32 (Value.int .u8 0)) = #[.int .u8 0, .int .u8 0, .int .u8 0, .int .u8 0, .int .u8 0, .int .u8 0, .int .u8 0, .int .u8 0, .int .u8 0, .int .u8 0, .int .u8 0, .int .u8 0, .int .u8 0, .int .u8 0, .int .u8 0, .int .u8 0, .int .u8 0, .int .u8 0, .int .u8 0, .int .u8 0, .int .u8 0, .int .u8 0, .int .u8 0, .int .u8 0, .int .u8 0, .int .u8 0, .int .u8 0, .int .u8 0, .int .u8 0, .int .u8 0, .int .u8 0, .int .u8 0] from rfl]
    show (w.heap.push _)[w.heap.size]? = _
    simp, by
    show w.heap.size < (w.heap.push _).size
    simp⟩)
  rw [← hdp] at hp1 hp2
  rw [← hu, ← hv] at HSh
  have HSd := Lib.hid (show ∀ W : World, W.heap[w.heap.size]? = some (.cells (Array.replicate 32 (.int .u8 0)) 188 (0, 0)) → Calls Tryz.prog 130 #[.slice (some ⟨w.heap.size, 0, none⟩) 32 32, .int .u64 (u : Int), .int .i64 v, .int .i64 (Lib.nDigits u : Int)] W
      (fun e w' => e = .returned (.tuple #[.int .i64 dp, .int .i64 (D.length : Int)]) ∧ Digs32 w.heap.size D w' ∧ Touch [w.heap.size] W w') from fun W h => (setDigits_any w.heap.size u v _ W h u1 (by omega) (by omega) (by omega)).mono (by
    rintro e w' ⟨rfl, h1, h2⟩
    rw [hdp2, ← hDe2]
    exact ⟨rfl, digs_trim h1 hDe2, h2⟩))
  have HUd := Lib.hid hDe2
  have HDp := Lib.hid hdp2
  clear hP hT hm he hmv hu hv hDe hDe2 hdp hdp2 hln hdl
  have HL := Lib.hid hL
  have HK := Lib.hid hk
  clear hb hQ hE hM e52 hd hL hk bl1 bl2
  go_enter Tryz.func89, Tryz.ntmps89
  go_wp2
  go_quiet (fail)
  go_wp2_with (go_at_call 112; refine (HLen.out _).mono ?_; rintro e w' ⟨rfl, rfl⟩)
  try go_at_call 135
  refine (HSh.out ((w.drewN _).alloc _) (HW.out _).1).mono ?_
  rintro e w1 ⟨rfl, hb1⟩
  have HB1 := Lib.hid (show Below w.heap.size w w1 ∧ w1.heap[w.heap.size]? = some (.cells (Array.replicate 32 (.int .u8 0)) 188 (0, 0)) from ⟨(HW.out _).1.trans (hb1.mono (HW.out _).1.size), (hb1.block _ (HW.out _).2.2).trans (HW.out _).2.1⟩)
  clear hb1 HW
  go_wp2
  go_region_with (first
    | (go_at_call 85; refine (HNu.out _ (show Below w.heap.size w (w1.drewN 1) from HB1.out.1.trans ⟨rfl, rfl, rfl, Nat.le_refl _, fun _ _ => rfl⟩)).mono ?_; rintro e w' ⟨rfl, rfl⟩)
    | (go_at_call 130; refine (HSd.out (w1.drewN 1) HB1.out.2).mono ?_; rintro e w2 ⟨rfl, hdg, ht2⟩))
  all_goals (
    have hb2 : Below w.heap.size w w2 := (show Below w.heap.size w (w1.drewN 1) from HB1.out.1.trans ⟨rfl, rfl, rfl, Nat.le_refl _, fun _ _ => rfl⟩).trans (Touch.below ht2 (by simp) HB1.out.1.size)
    have HT2 := Lib.hid (touch_weak (S := [eb]) (Touch.of_below hb2))
    have hd2 := dst_touch HD.out (Touch.of_below hb2) (by simp)
    have hlt := Lib.lt_of_heap HD.out.1
    clear hb2 ht2
    go_wp2_with fail
    try go_at_call 128
    refine (fmtF false eb w.heap.size dp cur D w2 hd2 hdg (by omega) hD1 hD2 (by omega) (by omega)).mono ?_
    rintro e w3 ⟨rfl, hd3, ht3⟩
    have HF3 := Lib.hid (show Dst eb cur _ w3 ∧ Touch [eb] w w3 from ⟨hd3, HT2.out.trans ht3⟩)
    clear hd3 ht3 hd2 hdg
    go_wp2
    go_ret
    exact ⟨rfl, HF3.out⟩)
set_option maxRecDepth 100000 in
set_option maxHeartbeats 6400000 in
theorem ftoa_eps (B eb r b : Nat) (hb : b = r) (cur : Array Value) (w : World) (hd : Dst eb cur [] w) (h0 : 0 < r) (hr : r < Ieee.double.infRung) (hs : r < E52) (hP : ∀ W, Below w.heap.size w W → P10 B W) (hT : ∀ W, Below w.heap.size w W → Lib.TabIs Tryz.prog W "internal/strconv.uint64pow10" .u64 Lib.pow10Tab) :
    Calls Tryz.prog 89 #[.slice (some ⟨eb, 1, none⟩) 0 64, .float .f64 b, .int .u8 101, .int .i64 (-1)] w (FmtPost eb cur (fmE false (fD r) (fP r)) w) := by
  rw [d_inf] at hr
  have hneg : (b : Int) / 9223372036854775808 = 0 := by omega
  obtain ⟨Q, hQ⟩ : ∃ Q, Q = b / 4503599627370496 := ⟨_, rfl⟩
  obtain ⟨E, hE⟩ : ∃ E, E = r / 4503599627370496 := ⟨_, rfl⟩
  obtain ⟨M, hM⟩ : ∃ M, M = r % 4503599627370496 := ⟨_, rfl⟩
  have q1 : (b : Int) / 4503599627370496 = (Q : Int) := by omega
  have qb : Q < 4096 := by omega
  have hand : bits .and .i64 (Q : Int) 2047 = (E : Int) := by
    have h := and_i64_nat Q 2047 (by omega) (by omega)
    rw [show Q &&& 2047 = Q % 2048 from Nat.and_two_pow_sub_one_eq_mod Q 11, show Q % 2048 = E from by omega] at h
    exact h
  have hmant : bits .and .u64 (b : Int) 4503599627370495 = (M : Int) := by
    have h := bits_and_u64_nat b 4503599627370495 (by omega) (by omega)
    rw [show b &&& 4503599627370495 = b % 4503599627370496 from Nat.and_two_pow_sub_one_eq_mod b 52, show b % 4503599627370496 = M from by omega] at h
    exact h
  have hE2 : ((E : Int) == 2047) = false := by rw [beq_eq_false_iff_ne]; omega
  have e52 : E52 = 4503599627370496 := rfl
  have hE0 : ((E : Int) == 0) = true := by rw [beq_iff_eq]; omega
  have hEe : (E : Int) = 0 := by omega
  have HM := Lib.hid (show mg r = M from by unfold mg; rw [if_pos hs]; omega)
  have hm0 : ((M : Int) == 0) = false := by rw [beq_eq_false_iff_ne]; omega
  have HX := Lib.hid (show pl r = -1074 from by unfold pl; rw [if_pos hs])
  have mlt : M < 18446744073709551616 := by omega
  have HB := Lib.hid hb
  have HG := Lib.hid (fM_good h0 (by rw [d_inf]; exact hr))
  have HD := Lib.hid hd
  obtain ⟨bl1, bl2, _, _⟩ := bl_bd h0
  obtain ⟨L, hL⟩ : ∃ L, L = bl (mg r) := ⟨_, rfl⟩
  obtain ⟨k, hk⟩ : ∃ k, k = 64 - L := ⟨_, rfl⟩
  have hlk : (64 : Int) - (L : Int) = (k : Int) := by omega
  have hk64 : k ≤ 63 := by omega
  have E2047 : E < 2047 := by omega
  have HLen := Lib.hid (show ∀ w, Calls Tryz.prog 112 #[.int .u64 (M : Int)] w (Ret (.int .i64 (L : Int)) w) from fun w => (Tryz.bits_Len64 (M : Int) w (by omega) (by omega)).mono (by
    rintro e w' ⟨rfl, rfl⟩
    rw [Int.toNat_natCast, bitLen_bl M mlt, hL, HM.out]
    exact ⟨rfl, rfl⟩))
  obtain ⟨m0, hm⟩ : ∃ m0, m0 = fM r := ⟨_, rfl⟩
  obtain ⟨e0, he⟩ : ∃ e0, e0 = fE r := ⟨_, rfl⟩
  have hmv : m0 = M * 2 ^ k := by rw [hm]; unfold fM; rw [HM.out, hk, hL, HM.out]
  rw [← hm, ← he] at HG
  have mw : IntKind.u64.wrap ((M : Int) * 2 ^ k) = (m0 : Int) := by
    have h := HG.out.r.hi
    rw [IntKind.wrap_u64, hmv]
    have e : ((M * 2 ^ k : Nat) : Int) = (M : Int) * 2 ^ k := by rw [Int.natCast_mul, Int.natCast_pow]; rfl
    rw [← e]
    omega
  have ew : (-1022) - (k : Int) - 52 = e0 := by rw [he]; unfold fE; rw [HX.out, ← hL, ← hk]; omega
  obtain ⟨u, hu⟩ : ∃ u, u = shD m0 e0 := ⟨_, rfl⟩
  obtain ⟨v, hv⟩ : ∃ v, v = shP m0 e0 := ⟨_, rfl⟩
  obtain ⟨u1, u2⟩ := shD_bd HG.out
  obtain ⟨v1, v2⟩ := shP_bd HG.out
  rw [← hu] at u1 u2
  rw [← hv] at v1 v2
  obtain ⟨D, hDe⟩ : ∃ D, D = fD r := ⟨_, rfl⟩
  have hDe2 : D = trim (Lib.decDigits u) := by rw [hDe, hu, hm, he]; rfl
  obtain ⟨dp, hdp⟩ : ∃ dp, dp = fP r := ⟨_, rfl⟩
  have hdp2 : ((Lib.decDigits u).length : Int) + v = dp := by rw [hdp, hv, hu, hm, he]; rfl
  have hln := dd_len u (by omega)
  have hD1 : 0 < D.length := by rw [hDe2]; exact trim_pos u u1
  have hD2 : D.length ≤ 20 := by rw [hDe2]; exact Nat.le_trans (trim_le _) hln
  have hdl : 1 ≤ (Lib.decDigits u).length := dec_len_pos u
  have hdpb : -390 ≤ dp ∧ dp ≤ 390 := by omega
  rw [← hDe, ← hdp]
  have HSh := Lib.hid (fun (W : World) (h : Below w.heap.size w W) => short_any B m0 e0 W HG.out (hP W h))
  have HNu := Lib.hid (fun (W : World) (h : Below w.heap.size w W) => Tryz.internal_strconv_numDigits u u1 (by omega) W (hT W h))
  have HW := Lib.hid (show ∀ n, Below w.heap.size w ((w.drewN n).alloc (Obj.cells #[.int .u8 0, .int .u8 0, .int .u8 0, .int .u8 0, .int .u8 0, .int .u8 0, .int .u8 0, .int .u8 0, .int .u8 0, .int .u8 0, .int .u8 0, .int .u8 0, .int .u8 0, .int .u8 0, .int .u8 0, .int .u8 0, .int .u8 0, .int .u8 0, .int .u8 0, .int .u8 0, .int .u8 0, .int .u8 0, .int .u8 0, .int .u8 0, .int .u8 0, .int .u8 0, .int .u8 0, .int .u8 0, .int .u8 0, .int .u8 0, .int .u8 0, .int .u8 0] 188)) ∧ ((w.drewN n).alloc (Obj.cells #[.int .u8 0, .int .u8 0, .int .u8 0, .int .u8 0, .int .u8 0, .int .u8 0, .int .u8 0, .int .u8 0, .int .u8 0, .int .u8 0, .int .u8 0, .int .u8 0, .int .u8 0, .int .u8 0, .int .u8 0, .int .u8 0, .int .u8 0, .int .u8 0, .int .u8 0, .int .u8 0, .int .u8 0, .int .u8 0, .int .u8 0, .int .u8 0, .int .u8 0, .int .u8 0, .int .u8 0, .int .u8 0, .int .u8 0, .int .u8 0, .int .u8 0, .int .u8 0] 188)).heap[w.heap.size]? = some (.cells (Array.replicate 32 (.int .u8 0)) 188 (0, 0)) ∧ w.heap.size < ((w.drewN n).alloc (Obj.cells #[.int .u8 0, .int .u8 0, .int .u8 0, .int .u8 0, .int .u8 0, .int .u8 0, .int .u8 0, .int .u8 0, .int .u8 0, .int .u8 0, .int .u8 0, .int .u8 0, .int .u8 0, .int .u8 0, .int .u8 0, .int .u8 0, .int .u8 0, .int .u8 0, .int .u8 0, .int .u8 0, .int .u8 0, .int .u8 0, .int .u8 0, .int .u8 0, .int .u8 0, .int .u8 0, .int .u8 0, .int .u8 0, .int .u8 0, .int .u8 0, .int .u8 0, .int .u8 0] 188)).heap.size from fun n => ⟨Below.alloc (show Below w.heap.size w (w.drewN n) from ⟨rfl, rfl, rfl, Nat.le_refl _, fun _ _ => rfl⟩) (Nat.le_refl _) _, by
    rw [show (Array.replicate 32 (Value.int .u8 0)) = #[.int .u8 0, .int .u8 0, .int .u8 0, .int .u8 0, .int .u8 0, .int .u8 0, .int .u8 0, .int .u8 0, .int .u8 0, .int .u8 0, .int .u8 0, .int .u8 0, .int .u8 0, .int .u8 0, .int .u8 0, .int .u8 0, .int .u8 0, .int .u8 0, .int .u8 0, .int .u8 0, .int .u8 0, .int .u8 0, .int .u8 0, .int .u8 0, .int .u8 0, .int .u8 0, .int .u8 0, .int .u8 0, .int .u8 0, .int .u8 0, .int .u8 0, .int .u8 0] from rfl]
    show (w.heap.push _)[w.heap.size]? = _
    simp, by
    show w.heap.size < (w.heap.push _).size
    simp⟩)
  rw [← hu, ← hv] at HSh
  have HSd := Lib.hid (show ∀ W : World, W.heap[w.heap.size]? = some (.cells (Array.replicate 32 (.int .u8 0)) 188 (0, 0)) → Calls Tryz.prog 130 #[.slice (some ⟨w.heap.size, 0, none⟩) 32 32, .int .u64 (u : Int), .int .i64 v, .int .i64 (Lib.nDigits u : Int)] W
      (fun e w' => e = .returned (.tuple #[.int .i64 dp, .int .i64 (D.length : Int)]) ∧ Digs32 w.heap.size D w' ∧ Touch [w.heap.size] W w') from fun W h => (setDigits_any w.heap.size u v _ W h u1 (by omega) (by omega) (by omega)).mono (by
    rintro e w' ⟨rfl, h1, h2⟩
    rw [hdp2, ← hDe2]
    exact ⟨rfl, digs_trim h1 hDe2, h2⟩))
  have HUd := Lib.hid hDe2
  have HDp := Lib.hid hdp2
  clear hP hT hm he hmv hu hv hDe hDe2 hdp hdp2 hln hdl
  have HL := Lib.hid hL
  have HK := Lib.hid hk
  clear hb hQ hE hM e52 hd hL hk bl1 bl2
  go_enter Tryz.func89, Tryz.ntmps89
  go_wp2
  go_quiet (fail)
  go_wp2_with (go_at_call 112; refine (HLen.out _).mono ?_; rintro e w' ⟨rfl, rfl⟩)
  try go_at_call 135
  refine (HSh.out ((w.drewN _).alloc _) (HW.out _).1).mono ?_
  rintro e w1 ⟨rfl, hb1⟩
  have HB1 := Lib.hid (show Below w.heap.size w w1 ∧ w1.heap[w.heap.size]? = some (.cells (Array.replicate 32 (.int .u8 0)) 188 (0, 0)) from ⟨(HW.out _).1.trans (hb1.mono (HW.out _).1.size), (hb1.block _ (HW.out _).2.2).trans (HW.out _).2.1⟩)
  clear hb1 HW
  go_wp2
  go_region_with (first
    | (go_at_call 85; refine (HNu.out _ (show Below w.heap.size w (w1.drewN 1) from HB1.out.1.trans ⟨rfl, rfl, rfl, Nat.le_refl _, fun _ _ => rfl⟩)).mono ?_; rintro e w' ⟨rfl, rfl⟩)
    | (go_at_call 130; refine (HSd.out (w1.drewN 1) HB1.out.2).mono ?_; rintro e w2 ⟨rfl, hdg, ht2⟩))
  all_goals (
    have hb2 : Below w.heap.size w w2 := (show Below w.heap.size w (w1.drewN 1) from HB1.out.1.trans ⟨rfl, rfl, rfl, Nat.le_refl _, fun _ _ => rfl⟩).trans (Touch.below ht2 (by simp) HB1.out.1.size)
    have HT2 := Lib.hid (touch_weak (S := [eb]) (Touch.of_below hb2))
    have hd2 := dst_touch HD.out (Touch.of_below hb2) (by simp)
    have hlt := Lib.lt_of_heap HD.out.1
    clear hb2 ht2
    go_wp2_with fail
    try go_at_call 128
    refine (fmtE false eb w.heap.size dp cur D w2 hd2 hdg (by omega) hD1 hD2 (by omega) (by omega)).mono ?_
    rintro e w3 ⟨rfl, hd3, ht3⟩
    have HF3 := Lib.hid (show Dst eb cur _ w3 ∧ Touch [eb] w w3 from ⟨hd3, HT2.out.trans ht3⟩)
    clear hd3 ht3 hd2 hdg
    go_wp2
    go_ret
    exact ⟨rfl, HF3.out⟩)
set_option maxRecDepth 100000 in
set_option maxHeartbeats 6400000 in
theorem ftoa_fnr (B eb r b : Nat) (hb : b = 9223372036854775808 + r) (cur : Array Value) (w : World) (hd : Dst eb cur [] w) (h0 : 0 < r) (hr : r < Ieee.double.infRung) (hs : ¬ r < E52) (hp1 : -30 ≤ fP r) (hp2 : fP r ≤ 30) (hP : ∀ W, Below w.heap.size w W → P10 B W) (hT : ∀ W, Below w.heap.size w W → Lib.TabIs Tryz.prog W "internal/strconv.uint64pow10" .u64 Lib.pow10Tab) :
    Calls Tryz.prog 89 #[.slice (some ⟨eb, 1, none⟩) 0 64, .float .f64 b, .int .u8 102, .int .i64 (-1)] w (FmtPost eb cur (fmF true (fD r) (fP r)) w) := by
  rw [d_inf] at hr
  have hneg : (b : Int) / 9223372036854775808 = 1 := by omega
  obtain ⟨Q, hQ⟩ : ∃ Q, Q = b / 4503599627370496 := ⟨_, rfl⟩
  obtain ⟨E, hE⟩ : ∃ E, E = r / 4503599627370496 := ⟨_, rfl⟩
  obtain ⟨M, hM⟩ : ∃ M, M = r % 4503599627370496 := ⟨_, rfl⟩
  have q1 : (b : Int) / 4503599627370496 = (Q : Int) := by omega
  have qb : Q < 4096 := by omega
  have hand : bits .and .i64 (Q : Int) 2047 = (E : Int) := by
    have h := and_i64_nat Q 2047 (by omega) (by omega)
    rw [show Q &&& 2047 = Q % 2048 from Nat.and_two_pow_sub_one_eq_mod Q 11, show Q % 2048 = E from by omega] at h
    exact h
  have hmant : bits .and .u64 (b : Int) 4503599627370495 = (M : Int) := by
    have h := bits_and_u64_nat b 4503599627370495 (by omega) (by omega)
    rw [show b &&& 4503599627370495 = b % 4503599627370496 from Nat.and_two_pow_sub_one_eq_mod b 52, show b % 4503599627370496 = M from by omega] at h
    exact h
  have hE2 : ((E : Int) == 2047) = false := by rw [beq_eq_false_iff_ne]; omega
  have e52 : E52 = 4503599627370496 := rfl
  have hE0 : ((E : Int) == 0) = false := by rw [beq_eq_false_iff_ne]; omega
  obtain ⟨N, hN⟩ : ∃ N, N = M + 4503599627370496 := ⟨_, rfl⟩
  have hor : bits .or .u64 (M : Int) 4503599627370496 = (N : Int) := by
    have h := bits_or_u64_nat M 4503599627370496 (by omega) (by omega)
    rw [Nat.or_comm, show 4503599627370496 ||| M = N from by
      have h2 := Nat.two_pow_add_eq_or_of_lt (i := 52) (b := M) (by omega) 1
      rw [Nat.mul_one] at h2
      rw [hN, Nat.add_comm]
      exact h2.symm] at h
    exact h
  have HM := Lib.hid (show mg r = N from by unfold mg; rw [if_neg hs]; simp only [e52]; omega)
  have hm0 : ((N : Int) == 0) = false := by rw [beq_eq_false_iff_ne]; omega
  have HX := Lib.hid (show pl r = (E : Int) - 1075 from by unfold pl; rw [if_neg hs]; simp only [e52]; omega)
  have mlt : N < 18446744073709551616 := by omega
  have HB := Lib.hid hb
  have HG := Lib.hid (fM_good h0 (by rw [d_inf]; exact hr))
  have HD := Lib.hid hd
  obtain ⟨bl1, bl2, _, _⟩ := bl_bd h0
  obtain ⟨L, hL⟩ : ∃ L, L = bl (mg r) := ⟨_, rfl⟩
  obtain ⟨k, hk⟩ : ∃ k, k = 64 - L := ⟨_, rfl⟩
  have hlk : (64 : Int) - (L : Int) = (k : Int) := by omega
  have hk64 : k ≤ 63 := by omega
  have E2047 : E < 2047 := by omega
  have HLen := Lib.hid (show ∀ w, Calls Tryz.prog 112 #[.int .u64 (N : Int)] w (Ret (.int .i64 (L : Int)) w) from fun w => (Tryz.bits_Len64 (N : Int) w (by omega) (by omega)).mono (by
    rintro e w' ⟨rfl, rfl⟩
    rw [Int.toNat_natCast, bitLen_bl N mlt, hL, HM.out]
    exact ⟨rfl, rfl⟩))
  obtain ⟨m0, hm⟩ : ∃ m0, m0 = fM r := ⟨_, rfl⟩
  obtain ⟨e0, he⟩ : ∃ e0, e0 = fE r := ⟨_, rfl⟩
  have hmv : m0 = N * 2 ^ k := by rw [hm]; unfold fM; rw [HM.out, hk, hL, HM.out]
  rw [← hm, ← he] at HG
  have mw : IntKind.u64.wrap ((N : Int) * 2 ^ k) = (m0 : Int) := by
    have h := HG.out.r.hi
    rw [IntKind.wrap_u64, hmv]
    have e : ((N * 2 ^ k : Nat) : Int) = (N : Int) * 2 ^ k := by rw [Int.natCast_mul, Int.natCast_pow]; rfl
    rw [← e]
    omega
  have ew : (E : Int) + -1023 - (k : Int) - 52 = e0 := by rw [he]; unfold fE; rw [HX.out, ← hL, ← hk]; omega
  obtain ⟨u, hu⟩ : ∃ u, u = shD m0 e0 := ⟨_, rfl⟩
  obtain ⟨v, hv⟩ : ∃ v, v = shP m0 e0 := ⟨_, rfl⟩
  obtain ⟨u1, u2⟩ := shD_bd HG.out
  obtain ⟨v1, v2⟩ := shP_bd HG.out
  rw [← hu] at u1 u2
  rw [← hv] at v1 v2
  obtain ⟨D, hDe⟩ : ∃ D, D = fD r := ⟨_, rfl⟩
  have hDe2 : D = trim (Lib.decDigits u) := by rw [hDe, hu, hm, he]; rfl
  obtain ⟨dp, hdp⟩ : ∃ dp, dp = fP r := ⟨_, rfl⟩
  have hdp2 : ((Lib.decDigits u).length : Int) + v = dp := by rw [hdp, hv, hu, hm, he]; rfl
  have hln := dd_len u (by omega)
  have hD1 : 0 < D.length := by rw [hDe2]; exact trim_pos u u1
  have hD2 : D.length ≤ 20 := by rw [hDe2]; exact Nat.le_trans (trim_le _) hln
  have hdl : 1 ≤ (Lib.decDigits u).length := dec_len_pos u
  have hdpb : -390 ≤ dp ∧ dp ≤ 390 := by omega
  rw [← hDe, ← hdp]
  have HSh := Lib.hid (fun (W : World) (h : Below w.heap.size w W) => short_any B m0 e0 W HG.out (hP W h))
  have HNu := Lib.hid (fun (W : World) (h : Below w.heap.size w W) => Tryz.internal_strconv_numDigits u u1 (by omega) W (hT W h))
  have HW := Lib.hid (show ∀ n, Below w.heap.size w ((w.drewN n).alloc (Obj.cells #[.int .u8 0, .int .u8 0, .int .u8 0, .int .u8 0, .int .u8 0, .int .u8 0, .int .u8 0, .int .u8 0, .int .u8 0, .int .u8 0, .int .u8 0, .int .u8 0, .int .u8 0, .int .u8 0, .int .u8 0, .int .u8 0, .int .u8 0, .int .u8 0, .int .u8 0, .int .u8 0, .int .u8 0, .int .u8 0, .int .u8 0, .int .u8 0, .int .u8 0, .int .u8 0, .int .u8 0, .int .u8 0, .int .u8 0, .int .u8 0, .int .u8 0, .int .u8 0] 188)) ∧ ((w.drewN n).alloc (Obj.cells #[.int .u8 0, .int .u8 0, .int .u8 0, .int .u8 0, .int .u8 0, .int .u8 0, .int .u8 0, .int .u8 0, .int .u8 0, .int .u8 0, .int .u8 0, .int .u8 0, .int .u8 0, .int .u8 0, .int .u8 0, .int .u8 0, .int .u8 0, .int .u8 0, .int .u8 0, .int .u8 0, .int .u8 0, .int .u8 0, .int .u8 0, .int .u8 0, .int .u8 0, .int .u8 0, .int .u8 0, .int .u8 0, .int .u8 0, .int .u8 0, .int .u8 0, .int .u8 0] 188)).heap[w.heap.size]? = some (.cells (Array.replicate 32 (.int .u8 0)) 188 (0, 0)) ∧ w.heap.size < ((w.drewN n).alloc (Obj.cells #[.int .u8 0, .int .u8 0, .int .u8 0, .int .u8 0, .int .u8 0, .int .u8 0, .int .u8 0, .int .u8 0, .int .u8 0, .int .u8 0, .int .u8 0, .int .u8 0, .int .u8 0, .int .u8 0, .int .u8 0, .int .u8 0, .int .u8 0, .int .u8 0, .int .u8 0, .int .u8 0, .int .u8 0, .int .u8 0, .int .u8 0, .int .u8 0, .int .u8 0, .int .u8 0, .int .u8 0, .int .u8 0, .int .u8 0, .int .u8 0, .int .u8 0, .int .u8 0] 188)).heap.size from fun n => ⟨Below.alloc (show Below w.heap.size w (w.drewN n) from ⟨rfl, rfl, rfl, Nat.le_refl _, fun _ _ => rfl⟩) (Nat.le_refl _) _, by
    rw [show (Array.replicate 32 (Value.int .u8 0)) = #[.int .u8 0, .int .u8 0, .int .u8 0, .int .u8 0, .int .u8 0, .int .u8 0, .int .u8 0, .int .u8 0, .int .u8 0, .int .u8 0, .int .u8 0, .int .u8 0, .int .u8 0, .int .u8 0, .int .u8 0, .int .u8 0, .int .u8 0, .int .u8 0, .int .u8 0, .int .u8 0, .int .u8 0, .int .u8 0, .int .u8 0, .int .u8 0, .int .u8 0, .int .u8 0, .int .u8 0, .int .u8 0, .int .u8 0, .int .u8 0, .int .u8 0, .int .u8 0] from rfl]
    show (w.heap.push _)[w.heap.size]? = _
    simp, by
    show w.heap.size < (w.heap.push _).size
    simp⟩)
  rw [← hdp] at hp1 hp2
  rw [← hu, ← hv] at HSh
  have HSd := Lib.hid (show ∀ W : World, W.heap[w.heap.size]? = some (.cells (Array.replicate 32 (.int .u8 0)) 188 (0, 0)) → Calls Tryz.prog 130 #[.slice (some ⟨w.heap.size, 0, none⟩) 32 32, .int .u64 (u : Int), .int .i64 v, .int .i64 (Lib.nDigits u : Int)] W
      (fun e w' => e = .returned (.tuple #[.int .i64 dp, .int .i64 (D.length : Int)]) ∧ Digs32 w.heap.size D w' ∧ Touch [w.heap.size] W w') from fun W h => (setDigits_any w.heap.size u v _ W h u1 (by omega) (by omega) (by omega)).mono (by
    rintro e w' ⟨rfl, h1, h2⟩
    rw [hdp2, ← hDe2]
    exact ⟨rfl, digs_trim h1 hDe2, h2⟩))
  have HUd := Lib.hid hDe2
  have HDp := Lib.hid hdp2
  clear hP hT hm he hmv hu hv hDe hDe2 hdp hdp2 hln hdl
  have HL := Lib.hid hL
  have HK := Lib.hid hk
  clear hb hQ hE hM e52 hd hN hL hk bl1 bl2
  go_enter Tryz.func89, Tryz.ntmps89
  go_wp2
  go_quiet (fail)
  go_wp2_with (go_at_call 112; refine (HLen.out _).mono ?_; rintro e w' ⟨rfl, rfl⟩)
  try go_at_call 135
  refine (HSh.out ((w.drewN _).alloc _) (HW.out _).1).mono ?_
  rintro e w1 ⟨rfl, hb1⟩
  have HB1 := Lib.hid (show Below w.heap.size w w1 ∧ w1.heap[w.heap.size]? = some (.cells (Array.replicate 32 (.int .u8 0)) 188 (0, 0)) from ⟨(HW.out _).1.trans (hb1.mono (HW.out _).1.size), (hb1.block _ (HW.out _).2.2).trans (HW.out _).2.1⟩)
  clear hb1 HW
  go_wp2
  go_region_with (first
    | (go_at_call 85; refine (HNu.out _ (show Below w.heap.size w (w1.drewN 1) from HB1.out.1.trans ⟨rfl, rfl, rfl, Nat.le_refl _, fun _ _ => rfl⟩)).mono ?_; rintro e w' ⟨rfl, rfl⟩)
    | (go_at_call 130; refine (HSd.out (w1.drewN 1) HB1.out.2).mono ?_; rintro e w2 ⟨rfl, hdg, ht2⟩))
  all_goals (
    have hb2 : Below w.heap.size w w2 := (show Below w.heap.size w (w1.drewN 1) from HB1.out.1.trans ⟨rfl, rfl, rfl, Nat.le_refl _, fun _ _ => rfl⟩).trans (Touch.below ht2 (by simp) HB1.out.1.size)
    have HT2 := Lib.hid (touch_weak (S := [eb]) (Touch.of_below hb2))
    have hd2 := dst_touch HD.out (Touch.of_below hb2) (by simp)
    have hlt := Lib.lt_of_heap HD.out.1
    clear hb2 ht2
    go_wp2_with fail
    try go_at_call 128
    refine (fmtF true eb w.heap.size dp cur D w2 hd2 hdg (by omega) hD1 hD2 (by omega) (by omega)).mono ?_
    rintro e w3 ⟨rfl, hd3, ht3⟩
    have HF3 := Lib.hid (show Dst eb cur _ w3 ∧ Touch [eb] w w3 from ⟨hd3, HT2.out.trans ht3⟩)
    clear hd3 ht3 hd2 hdg
    go_wp2
    go_ret
    exact ⟨rfl, HF3.out⟩)
set_option maxRecDepth 100000 in
set_option maxHeartbeats 6400000 in
theorem ftoa_enr (B eb r b : Nat) (hb : b = 9223372036854775808 + r) (cur : Array Value) (w : World) (hd : Dst eb cur [] w) (h0 : 0 < r) (hr : r < Ieee.double.infRung) (hs : ¬ r < E52) (hP : ∀ W, Below w.heap.size w W → P10 B W) (hT : ∀ W, Below w.heap.size w W → Lib.TabIs Tryz.prog W "internal/strconv.uint64pow10" .u64 Lib.pow10Tab) :
    Calls Tryz.prog 89 #[.slice (some ⟨eb, 1, none⟩) 0 64, .float .f64 b, .int .u8 101, .int .i64 (-1)] w (FmtPost eb cur (fmE true (fD r) (fP r)) w) := by
  rw [d_inf] at hr
  have hneg : (b : Int) / 9223372036854775808 = 1 := by omega
  obtain ⟨Q, hQ⟩ : ∃ Q, Q = b / 4503599627370496 := ⟨_, rfl⟩
  obtain ⟨E, hE⟩ : ∃ E, E = r / 4503599627370496 := ⟨_, rfl⟩
  obtain ⟨M, hM⟩ : ∃ M, M = r % 4503599627370496 := ⟨_, rfl⟩
  have q1 : (b : Int) / 4503599627370496 = (Q : Int) := by omega
  have qb : Q < 4096 := by omega
  have hand : bits .and .i64 (Q : Int) 2047 = (E : Int) := by
    have h := and_i64_nat Q 2047 (by omega) (by omega)
    rw [show Q &&& 2047 = Q % 2048 from Nat.and_two_pow_sub_one_eq_mod Q 11, show Q % 2048 = E from by omega] at h
    exact h
  have hmant : bits .and .u64 (b : Int) 4503599627370495 = (M : Int) := by
    have h := bits_and_u64_nat b 4503599627370495 (by omega) (by omega)
    rw [show b &&& 4503599627370495 = b % 4503599627370496 from Nat.and_two_pow_sub_one_eq_mod b 52, show b % 4503599627370496 = M from by omega] at h
    exact h
  have hE2 : ((E : Int) == 2047) = false := by rw [beq_eq_false_iff_ne]; omega
  have e52 : E52 = 4503599627370496 := rfl
  have hE0 : ((E : Int) == 0) = false := by rw [beq_eq_false_iff_ne]; omega
  obtain ⟨N, hN⟩ : ∃ N, N = M + 4503599627370496 := ⟨_, rfl⟩
  have hor : bits .or .u64 (M : Int) 4503599627370496 = (N : Int) := by
    have h := bits_or_u64_nat M 4503599627370496 (by omega) (by omega)
    rw [Nat.or_comm, show 4503599627370496 ||| M = N from by
      have h2 := Nat.two_pow_add_eq_or_of_lt (i := 52) (b := M) (by omega) 1
      rw [Nat.mul_one] at h2
      rw [hN, Nat.add_comm]
      exact h2.symm] at h
    exact h
  have HM := Lib.hid (show mg r = N from by unfold mg; rw [if_neg hs]; simp only [e52]; omega)
  have hm0 : ((N : Int) == 0) = false := by rw [beq_eq_false_iff_ne]; omega
  have HX := Lib.hid (show pl r = (E : Int) - 1075 from by unfold pl; rw [if_neg hs]; simp only [e52]; omega)
  have mlt : N < 18446744073709551616 := by omega
  have HB := Lib.hid hb
  have HG := Lib.hid (fM_good h0 (by rw [d_inf]; exact hr))
  have HD := Lib.hid hd
  obtain ⟨bl1, bl2, _, _⟩ := bl_bd h0
  obtain ⟨L, hL⟩ : ∃ L, L = bl (mg r) := ⟨_, rfl⟩
  obtain ⟨k, hk⟩ : ∃ k, k = 64 - L := ⟨_, rfl⟩
  have hlk : (64 : Int) - (L : Int) = (k : Int) := by omega
  have hk64 : k ≤ 63 := by omega
  have E2047 : E < 2047 := by omega
  have HLen := Lib.hid (show ∀ w, Calls Tryz.prog 112 #[.int .u64 (N : Int)] w (Ret (.int .i64 (L : Int)) w) from fun w => (Tryz.bits_Len64 (N : Int) w (by omega) (by omega)).mono (by
    rintro e w' ⟨rfl, rfl⟩
    rw [Int.toNat_natCast, bitLen_bl N mlt, hL, HM.out]
    exact ⟨rfl, rfl⟩))
  obtain ⟨m0, hm⟩ : ∃ m0, m0 = fM r := ⟨_, rfl⟩
  obtain ⟨e0, he⟩ : ∃ e0, e0 = fE r := ⟨_, rfl⟩
  have hmv : m0 = N * 2 ^ k := by rw [hm]; unfold fM; rw [HM.out, hk, hL, HM.out]
  rw [← hm, ← he] at HG
  have mw : IntKind.u64.wrap ((N : Int) * 2 ^ k) = (m0 : Int) := by
    have h := HG.out.r.hi
    rw [IntKind.wrap_u64, hmv]
    have e : ((N * 2 ^ k : Nat) : Int) = (N : Int) * 2 ^ k := by rw [Int.natCast_mul, Int.natCast_pow]; rfl
    rw [← e]
    omega
  have ew : (E : Int) + -1023 - (k : Int) - 52 = e0 := by rw [he]; unfold fE; rw [HX.out, ← hL, ← hk]; omega
  obtain ⟨u, hu⟩ : ∃ u, u = shD m0 e0 := ⟨_, rfl⟩
  obtain ⟨v, hv⟩ : ∃ v, v = shP m0 e0 := ⟨_, rfl⟩
  obtain ⟨u1, u2⟩ := shD_bd HG.out
  obtain ⟨v1, v2⟩ := shP_bd HG.out
  rw [← hu] at u1 u2
  rw [← hv] at v1 v2
  obtain ⟨D, hDe⟩ : ∃ D, D = fD r := ⟨_, rfl⟩
  have hDe2 : D = trim (Lib.decDigits u) := by rw [hDe, hu, hm, he]; rfl
  obtain ⟨dp, hdp⟩ : ∃ dp, dp = fP r := ⟨_, rfl⟩
  have hdp2 : ((Lib.decDigits u).length : Int) + v = dp := by rw [hdp, hv, hu, hm, he]; rfl
  have hln := dd_len u (by omega)
  have hD1 : 0 < D.length := by rw [hDe2]; exact trim_pos u u1
  have hD2 : D.length ≤ 20 := by rw [hDe2]; exact Nat.le_trans (trim_le _) hln
  have hdl : 1 ≤ (Lib.decDigits u).length := dec_len_pos u
  have hdpb : -390 ≤ dp ∧ dp ≤ 390 := by omega
  rw [← hDe, ← hdp]
  have HSh := Lib.hid (fun (W : World) (h : Below w.heap.size w W) => short_any B m0 e0 W HG.out (hP W h))
  have HNu := Lib.hid (fun (W : World) (h : Below w.heap.size w W) => Tryz.internal_strconv_numDigits u u1 (by omega) W (hT W h))
  have HW := Lib.hid (show ∀ n, Below w.heap.size w ((w.drewN n).alloc (Obj.cells #[.int .u8 0, .int .u8 0, .int .u8 0, .int .u8 0, .int .u8 0, .int .u8 0, .int .u8 0, .int .u8 0, .int .u8 0, .int .u8 0, .int .u8 0, .int .u8 0, .int .u8 0, .int .u8 0, .int .u8 0, .int .u8 0, .int .u8 0, .int .u8 0, .int .u8 0, .int .u8 0, .int .u8 0, .int .u8 0, .int .u8 0, .int .u8 0, .int .u8 0, .int .u8 0, .int .u8 0, .int .u8 0, .int .u8 0, .int .u8 0, .int .u8 0, .int .u8 0] 188)) ∧ ((w.drewN n).alloc (Obj.cells #[.int .u8 0, .int .u8 0, .int .u8 0, .int .u8 0, .int .u8 0, .int .u8 0, .int .u8 0, .int .u8 0, .int .u8 0, .int .u8 0, .int .u8 0, .int .u8 0, .int .u8 0, .int .u8 0, .int .u8 0, .int .u8 0, .int .u8 0, .int .u8 0, .int .u8 0, .int .u8 0, .int .u8 0, .int .u8 0, .int .u8 0, .int .u8 0, .int .u8 0, .int .u8 0, .int .u8 0, .int .u8 0, .int .u8 0, .int .u8 0, .int .u8 0, .int .u8 0] 188)).heap[w.heap.size]? = some (.cells (Array.replicate 32 (.int .u8 0)) 188 (0, 0)) ∧ w.heap.size < ((w.drewN n).alloc (Obj.cells #[.int .u8 0, .int .u8 0, .int .u8 0, .int .u8 0, .int .u8 0, .int .u8 0, .int .u8 0, .int .u8 0, .int .u8 0, .int .u8 0, .int .u8 0, .int .u8 0, .int .u8 0, .int .u8 0, .int .u8 0, .int .u8 0, .int .u8 0, .int .u8 0, .int .u8 0, .int .u8 0, .int .u8 0, .int .u8 0, .int .u8 0, .int .u8 0, .int .u8 0, .int .u8 0, .int .u8 0, .int .u8 0, .int .u8 0, .int .u8 0, .int .u8 0, .int .u8 0] 188)).heap.size from fun n => ⟨Below.alloc (show Below w.heap.size w (w.drewN n) from ⟨rfl, rfl, rfl, Nat.le_refl _, fun _ _ => rfl⟩) (Nat.le_refl _) _, by
    rw [show (Array.replicate 32 (Value.int .u8 0)) = #[.int .u8 0, .int .u8 0, .int .u8 0, .int .u8 0, .int .u8 0, .int .u8 0, .int .u8 0, .int .u8 0, .int .u8 0, .int .u8 0, .int .u8 0, .int .u8 0, .int .u8 0, .int .u8 0, .int .u8 0, .int .u8 0, .int .u8 0, .int .u8 0, .int .u8 0, .int .u8 0, .int .u8 0, .int .u8 0, .int .u8 0, .int .u8 0, .int .u8 0, .int .u8 0, .int .u8 0, .int .u8 0, .int .u8 0, .int .u8 0, .int .u8 0, .int .u8 0] from rfl]
    show (w.heap.push _)[w.heap.size]? = _
    simp, by
    show w.heap.size < (w.heap.push _).size
    simp⟩)
  rw [← hu, ← hv] at HSh
  have HSd := Lib.hid (show ∀ W : World, W.heap[w.heap.size]? = some (.cells (Array.replicate 32 (.int .u8 0)) 188 (0, 0)) → Calls Tryz.prog 130 #[.slice (some ⟨w.heap.size, 0, none⟩) 32 32, .int .u64 (u : Int), .int .i64 v, .int .i64 (Lib.nDigits u : Int)] W
      (fun e w' => e = .returned (.tuple #[.int .i64 dp, .int .i64 (D.length : Int)]) ∧ Digs32 w.heap.size D w' ∧ Touch [w.heap.size] W w') from fun W h => (setDigits_any w.heap.size u v _ W h u1 (by omega) (by omega) (by omega)).mono (by
    rintro e w' ⟨rfl, h1, h2⟩
    rw [hdp2, ← hDe2]
    exact ⟨rfl, digs_trim h1 hDe2, h2⟩))
  have HUd := Lib.hid hDe2
  have HDp := Lib.hid hdp2
  clear hP hT hm he hmv hu hv hDe hDe2 hdp hdp2 hln hdl
  have HL := Lib.hid hL
  have HK := Lib.hid hk
  clear hb hQ hE hM e52 hd hN hL hk bl1 bl2
  go_enter Tryz.func89, Tryz.ntmps89
  go_wp2
  go_quiet (fail)
  go_wp2_with (go_at_call 112; refine (HLen.out _).mono ?_; rintro e w' ⟨rfl, rfl⟩)
  try go_at_call 135
  refine (HSh.out ((w.drewN _).alloc _) (HW.out _).1).mono ?_
  rintro e w1 ⟨rfl, hb1⟩
  have HB1 := Lib.hid (show Below w.heap.size w w1 ∧ w1.heap[w.heap.size]? = some (.cells (Array.replicate 32 (.int .u8 0)) 188 (0, 0)) from ⟨(HW.out _).1.trans (hb1.mono (HW.out _).1.size), (hb1.block _ (HW.out _).2.2).trans (HW.out _).2.1⟩)
  clear hb1 HW
  go_wp2
  go_region_with (first
    | (go_at_call 85; refine (HNu.out _ (show Below w.heap.size w (w1.drewN 1) from HB1.out.1.trans ⟨rfl, rfl, rfl, Nat.le_refl _, fun _ _ => rfl⟩)).mono ?_; rintro e w' ⟨rfl, rfl⟩)
    | (go_at_call 130; refine (HSd.out (w1.drewN 1) HB1.out.2).mono ?_; rintro e w2 ⟨rfl, hdg, ht2⟩))
  all_goals (
    have hb2 : Below w.heap.size w w2 := (show Below w.heap.size w (w1.drewN 1) from HB1.out.1.trans ⟨rfl, rfl, rfl, Nat.le_refl _, fun _ _ => rfl⟩).trans (Touch.below ht2 (by simp) HB1.out.1.size)
    have HT2 := Lib.hid (touch_weak (S := [eb]) (Touch.of_below hb2))
    have hd2 := dst_touch HD.out (Touch.of_below hb2) (by simp)
    have hlt := Lib.lt_of_heap HD.out.1
    clear hb2 ht2
    go_wp2_with fail
    try go_at_call 128
    refine (fmtE true eb w.heap.size dp cur D w2 hd2 hdg (by omega) hD1 hD2 (by omega) (by omega)).mono ?_
    rintro e w3 ⟨rfl, hd3, ht3⟩
    have HF3 := Lib.hid (show Dst eb cur _ w3 ∧ Touch [eb] w w3 from ⟨hd3, HT2.out.trans ht3⟩)
    clear hd3 ht3 hd2 hdg
    go_wp2
    go_ret
    exact ⟨rfl, HF3.out⟩)
set_option maxRecDepth 100000 in
set_option maxHeartbeats 6400000 in
theorem ftoa_fns (B eb r b : Nat) (hb : b = 9223372036854775808 + r) (cur : Array Value) (w : World) (hd : Dst eb cur [] w) (h0 : 0 < r) (hr : r < Ieee.double.infRung) (hs : r < E52) (hp1 : -30 ≤ fP r) (hp2 : fP r ≤ 30) (hP : ∀ W, Below w.heap.size w W → P10 B W) (hT : ∀ W, Below w.heap.size w W → Lib.TabIs Tryz.prog W "internal/strconv.uint64pow10" .u64 Lib.pow10Tab) :
    Calls Tryz.prog 89 #[.slice (some ⟨eb, 1, none⟩) 0 64, .float .f64 b, .int .u8 102, .int .i64 (-1)] w (FmtPost eb cur (fmF true (fD r) (fP r)) w) := by
  rw [d_inf] at hr
  have hneg : (b : Int) / 9223372036854775808 = 1 := by omega
  obtain ⟨Q, hQ⟩ : ∃ Q, Q = b / 4503599627370496 := ⟨_, rfl⟩
  obtain ⟨E, hE⟩ : ∃ E, E = r / 4503599627370496 := ⟨_, rfl⟩
  obtain ⟨M, hM⟩ : ∃ M, M = r % 4503599627370496 := ⟨_, rfl⟩
  have q1 : (b : Int) / 4503599627370496 = (Q : Int) := by omega
  have qb : Q < 4096 := by omega
  have hand : bits .and .i64 (Q : Int) 2047 = (E : Int) := by
    have h := and_i64_nat Q 2047 (by omega) (by omega)
    rw [show Q &&& 2047 = Q % 2048 from Nat.and_two_pow_sub_one_eq_mod Q 11, show Q % 2048 = E from by omega] at h
    exact h
  have hmant : bits .and .u64 (b : Int) 4503599627370495 = (M : Int) := by
    have h := bits_and_u64_nat b 4503599627370495 (by omega) (by omega)
    rw [show b &&& 4503599627370495 = b % 4503599627370496 from Nat.and_two_pow_sub_one_eq_mod b 52, show b % 4503599627370496 = M from by omega] at h
    exact h
  have hE2 : ((E : Int) == 2047) = false := by rw [beq_eq_false_iff_ne]; omega
  have e52 : E52 = 4503599627370496 := rfl
  have hE0 : ((E : Int) == 0) = true := by rw [beq_iff_eq]; omega
  have hEe : (E : Int) = 0 := by omega
  have HM := Lib.hid (show mg r = M from by unfold mg; rw [if_pos hs]; omega)
  have hm0 : ((M : Int) == 0) = false := by rw [beq_eq_false_iff_ne]; omega
  have HX := Lib.hid (show pl r = -1074 from by unfold pl; rw [if_pos hs])
  have mlt : M < 18446744073709551616 := by omega
  have HB := Lib.hid hb
  have HG := Lib.hid (fM_good h0 (by rw [d_inf]; exact hr))
  have HD := Lib.hid hd
  obtain ⟨bl1, bl2, _, _⟩ := bl_bd h0
  obtain ⟨L, hL⟩ : ∃ L, L = bl (mg r) := ⟨_, rfl⟩
  obtain ⟨k, hk⟩ : ∃ k, k = 64 - L := ⟨_, rfl⟩
  have hlk : (64 : Int) - (L : Int) = (k : Int) := by omega
  have hk64 : k ≤ 63 := by omega
  have E2047 : E < 2047 := by omega
  have HLen := Lib.hid (show ∀ w, Calls Tryz.prog 112 #[.int .u64 (M : Int)] w (Ret (.int .i64 (L : Int)) w) from fun w => (Tryz.bits_Len64 (M : Int) w (by omega) (by omega)).mono (by
    rintro e w' ⟨rfl, rfl⟩
    rw [Int.toNat_natCast, bitLen_bl M mlt, hL, HM.out]
    exact ⟨rfl, rfl⟩))
  obtain ⟨m0, hm⟩ : ∃ m0, m0 = fM r := ⟨_, rfl⟩
  obtain ⟨e0, he⟩ : ∃ e0, e0 = fE r := ⟨_, rfl⟩
  have hmv : m0 = M * 2 ^ k := by rw [hm]; unfold fM; rw [HM.out, hk, hL, HM.out]
  rw [← hm, ← he] at HG
  have mw : IntKind.u64.wrap ((M : Int) * 2 ^ k) = (m0 : Int) := by
    have h := HG.out.r.hi
    rw [IntKind.wrap_u64, hmv]
    have e : ((M * 2 ^ k : Nat) : Int) = (M : Int) * 2 ^ k := by rw [Int.natCast_mul, Int.natCast_pow]; rfl
    rw [← e]
    omega
  have ew : (-1022) - (k : Int) - 52 = e0 := by rw [he]; unfold fE; rw [HX.out, ← hL, ← hk]; omega
  obtain ⟨u, hu⟩ : ∃ u, u = shD m0 e0 := ⟨_, rfl⟩
  obtain ⟨v, hv⟩ : ∃ v, v = shP m0 e0 := ⟨_, rfl⟩
  obtain ⟨u1, u2⟩ := shD_bd HG.out
  obtain ⟨v1, v2⟩ := shP_bd HG.out
  rw [← hu] at u1 u2
  rw [← hv] at v1 v2
  obtain ⟨D, hDe⟩ : ∃ D, D = fD r := ⟨_, rfl⟩
  have hDe2 : D = trim (Lib.decDigits u) := by rw [hDe, hu, hm, he]; rfl
  obtain ⟨dp, hdp⟩ : ∃ dp, dp = fP r := ⟨_, rfl⟩
  have hdp2 : ((Lib.decDigits u).length : Int) + v = dp := by rw [hdp, hv, hu, hm, he]; rfl
  have hln := dd_len u (by omega)
  have hD1 : 0 < D.length := by rw [hDe2]; exact trim_pos u u1
  have hD2 : D.length ≤ 20 := by rw [hDe2]; exact Nat.le_trans (trim_le _) hln
  have hdl : 1 ≤ (Lib.decDigits u).length := dec_len_pos u
  have hdpb : -390 ≤ dp ∧ dp ≤ 390 := by omega
  rw [← hDe, ← hdp]
  have HSh := Lib.hid (fun (W : World) (h : Below w.heap.size w W) => short_any B m0 e0 W HG.out (hP W h))
  have HNu := Lib.hid (fun (W : World) (h : Below w.heap.size w W) => Tryz.internal_strconv_numDigits u u1 (by omega) W (hT W h))
  have HW := Lib.hid (show ∀ n, Below w.heap.size w ((w.drewN n).alloc (Obj.cells #[.int .u8 0, .int .u8 0, .int .u8 0, .int .u8 0, .int .u8 0, .int .u8 0, .int .u8 0, .int .u8 0, .int .u8 0, .int .u8 0, .int .u8 0, .int .u8 0, .int .u8 0, .int .u8 0, .int .u8 0, .int .u8 0, .int .u8 0, .int .u8 0, .int .u8 0, .int .u8 0, .int .u8 0, .int .u8 0, .int .u8 0, .int .u8 0, .int .u8 0, .int .u8 0, .int .u8 0, .int .u8 0, .int .u8 0, .int .u8 0, .int .u8 0, .int .u8 0] 188)) ∧ ((w.drewN n).alloc (Obj.cells #[.int .u8 0, .int .u8 0, .int .u8 0, .int .u8 0, .int .u8 0, .int .u8 0, .int .u8 0, .int .u8 0, .int .u8 0, .int .u8 0, .int .u8 0, .int .u8 0, .int .u8 0, .int .u8 0, .int .u8 0, .int .u8 0, .int .u8 0, .int .u8 0, .int .u8 0, .int .u8 0, .int .u8 0, .int .u8 0, .int .u8 0, .int .u8 0, .int .u8 0, .int .u8 0, .int .u8 0, .int .u8 0, .int .u8 0, .int .u8 0, .int .u8 0, .int .u8 0] 188)).heap[w.heap.size]? = some (.cells (Array.replicate 32 (.int .u8 0)) 188 (0, 0)) ∧ w.heap.size < ((w.drewN n).alloc (Obj.cells #[.int .u8 0, .int .u8 0, .int .u8 0, .int .u8 0, .int .u8 0, .int .u8 0, .int .u8 0, .int .u8 0, .int .u8 0, .int .u8 0, .int .u8 0, .int .u8 0, .int .u8 0, .int .u8 0, .int .u8 0, .int .u8 0, .int .u8 0, .int .u8 0, .int .u8 0, .int .u8 0, .int .u8 0, .int .u8 0, .int .u8 0, .int .u8 0, .int .u8 0, .int .u8 0, .int .u8 0, .int .u8 0, .int .u8 0, .int .u8 0, .int .u8 0, .int .u8 0] 188)).heap.size from fun n => ⟨Below.alloc (show Below w.heap.size w (w.drewN n) from ⟨rfl, rfl, rfl, Nat.le_refl _, fun _ _ => rfl⟩) (Nat.le_refl _) _, by
    rw [show (Array.replicate 32 (Value.int .u8 0)) = #[.int .u8 0, .int .u8 0, .int .u8 0, .int .u8 0, .int .u8 0, .int .u8 0, .int .u8 0, .int .u8 0, .int .u8 0, .int .u8 0, .int .u8 0, .int .u8 0, .int .u8 0, .int .u8 0, .int .u8 0, .int .u8 0, .int .u8 0, .int .u8 0, .int .u8 0, .int .u8 0, .int .u8 0, .int .u8 0, .int .u8 0, .int .u8 0, .int .u8 0, .int .u8 0, .int .u8 0, .int .u8 0, .int .u8 0, .int .u8 0, .int .u8 0, .int .u8 0] from rfl]
    show (w.heap.push _)[w.heap.size]? = _
    simp, by
    show w.heap.size < (w.heap.push _).size
    simp⟩)
  rw [← hdp] at hp1 hp2
  rw [← hu, ← hv] at HSh
  have HSd := Lib.hid (show ∀ W : World, W.heap[w.heap.size]? = some (.cells (Array.replicate 32 (.int .u8 0)) 188 (0, 0)) → Calls Tryz.prog 130 #[.slice (some ⟨w.heap.size, 0, none⟩) 32 32, .int .u64 (u : Int), .int .i64 v, .int .i64 (Lib.nDigits u : Int)] W
      (fun e w' => e = .returned (.tuple #[.int .i64 dp, .int .i64 (D.length : Int)]) ∧ Digs32 w.heap.size D w' ∧ Touch [w.heap.size] W w') from fun W h => (setDigits_any w.heap.size u v _ W h u1 (by omega) (by omega) (by omega)).mono (by
    rintro e w' ⟨rfl, h1, h2⟩
    rw [hdp2, ← hDe2]
    exact ⟨rfl, digs_trim h1 hDe2, h2⟩))
  have HUd := Lib.hid hDe2
  have HDp := Lib.hid hdp2
  clear hP hT hm he hmv hu hv hDe hDe2 hdp hdp2 hln hdl
  have HL := Lib.hid hL
  have HK := Lib.hid hk
  clear hb hQ hE hM e52 hd hL hk bl1 bl2
  go_enter Tryz.func89, Tryz.ntmps89
  go_wp2
  go_quiet (fail)
  go_wp2_with (go_at_call 112; refine (HLen.out _).mono ?_; rintro e w' ⟨rfl, rfl⟩)
  try go_at_call 135
  refine (HSh.out ((w.drewN _).alloc _) (HW.out _).1).mono ?_
  rintro e w1 ⟨rfl, hb1⟩
  have HB1 := Lib.hid (show Below w.heap.size w w1 ∧ w1.heap[w.heap.size]? = some (.cells (Array.replicate 32 (.int .u8 0)) 188 (0, 0)) from ⟨(HW.out _).1.trans (hb1.mono (HW.out _).1.size), (hb1.block _ (HW.out _).2.2).trans (HW.out _).2.1⟩)
  clear hb1 HW
  go_wp2
  go_region_with (first
    | (go_at_call 85; refine (HNu.out _ (show Below w.heap.size w (w1.drewN 1) from HB1.out.1.trans ⟨rfl, rfl, rfl, Nat.le_refl _, fun _ _ => rfl⟩)).mono ?_; rintro e w' ⟨rfl, rfl⟩)
    | (go_at_call 130; refine (HSd.out (w1.drewN 1) HB1.out.2).mono ?_; rintro e w2 ⟨rfl, hdg, ht2⟩))
  all_goals (
    have hb2 : Below w.heap.size w w2 := (show Below w.heap.size w (w1.drewN 1) from HB1.out.1.trans ⟨rfl, rfl, rfl, Nat.le_refl _, fun _ _ => rfl⟩).trans (Touch.below ht2 (by simp) HB1.out.1.size)
    have HT2 := Lib.hid (touch_weak (S := [eb]) (Touch.of_below hb2))
    have hd2 := dst_touch HD.out (Touch.of_below hb2) (by simp)
    have hlt := Lib.lt_of_heap HD.out.1
    clear hb2 ht2
    go_wp2_with fail
    try go_at_call 128
    refine (fmtF true eb w.heap.size dp cur D w2 hd2 hdg (by omega) hD1 hD2 (by omega) (by omega)).mono ?_
    rintro e w3 ⟨rfl, hd3, ht3⟩
    have HF3 := Lib.hid (show Dst eb cur _ w3 ∧ Touch [eb] w w3 from ⟨hd3, HT2.out.trans ht3⟩)
    clear hd3 ht3 hd2 hdg
    go_wp2
    go_ret
    exact ⟨rfl, HF3.out⟩)
set_option maxRecDepth 100000 in
set_option maxHeartbeats 6400000 in
theorem ftoa_ens (B eb r b : Nat) (hb : b = 9223372036854775808 + r) (cur : Array Value) (w : World) (hd : Dst eb cur [] w) (h0 : 0 < r) (hr : r < Ieee.double.infRung) (hs : r < E52) (hP : ∀ W, Below w.heap.size w W → P10 B W) (hT : ∀ W, Below w.heap.size w W → Lib.TabIs Tryz.prog W "internal/strconv.uint64pow10" .u64 Lib.pow10Tab) :
    Calls Tryz.prog 89 #[.slice (some ⟨eb, 1, none⟩) 0 64, .float .f64 b, .int .u8 101, .int .i64 (-1)] w (FmtPost eb cur (fmE true (fD r) (fP r)) w) := by
  rw [d_inf] at hr
  have hneg : (b : Int) / 9223372036854775808 = 1 := by omega
  obtain ⟨Q, hQ⟩ : ∃ Q, Q = b / 4503599627370496 := ⟨_, rfl⟩
  obtain ⟨E, hE⟩ : ∃ E, E = r / 4503599627370496 := ⟨_, rfl⟩
  obtain ⟨M, hM⟩ : ∃ M, M = r % 4503599627370496 := ⟨_, rfl⟩
  have q1 : (b : Int) / 4503599627370496 = (Q : Int) := by omega
  have qb : Q < 4096 := by omega
  have hand : bits .and .i64 (Q : Int) 2047 = (E : Int) := by
    have h := and_i64_nat Q 2047 (by omega) (by omega)
    rw [show Q &&& 2047 = Q % 2048 from Nat.and_two_pow_sub_one_eq_mod Q 11, show Q % 2048 = E from by omega] at h
    exact h
  have hmant : bits .and .u64 (b : Int) 4503599627370495 = (M : Int) := by
    have h := bits_and_u64_nat b 4503599627370495 (by omega) (by omega)
    rw [show b &&& 4503599627370495 = b % 4503599627370496 from Nat.and_two_pow_sub_one_eq_mod b 52, show b % 4503599627370496 = M from by omega] at h
    exact h
  have hE2 : ((E : Int) == 2047) = false := by rw [beq_eq_false_iff_ne]; omega
  have e52 : E52 = 4503599627370496 := rfl
  have hE0 : ((E : Int) == 0) = true := by rw [beq_iff_eq]; omega
  have hEe : (E : Int) = 0 := by omega
  have HM := Lib.hid (show mg r = M from by unfold mg; rw [if_pos hs]; omega)
  have hm0 : ((M : Int) == 0) = false := by rw [beq_eq_false_iff_ne]; omega
  have HX := Lib.hid (show pl r = -1074 from by unfold pl; rw [if_pos hs])
  have mlt : M < 18446744073709551616 := by omega
  have HB := Lib.hid hb
  have HG := Lib.hid (fM_good h0 (by rw [d_inf]; exact hr))
  have HD := Lib.hid hd
  obtain ⟨bl1, bl2, _, _⟩ := bl_bd h0
  obtain ⟨L, hL⟩ : ∃ L, L = bl (mg r) := ⟨_, rfl⟩
  obtain ⟨k, hk⟩ : ∃ k, k = 64 - L := ⟨_, rfl⟩
  have hlk : (64 : Int) - (L : Int) = (k : Int) := by omega
  have hk64 : k ≤ 63 := by omega
  have E2047 : E < 2047 := by omega
  have HLen := Lib.hid (show ∀ w, Calls Tryz.prog 112 #[.int .u64 (M : Int)] w (Ret (.int .i64 (L : Int)) w) from fun w => (Tryz.bits_Len64 (M : Int) w (by omega) (by omega)).mono (by
    rintro e w' ⟨rfl, rfl⟩
    rw [Int.toNat_natCast, bitLen_bl M mlt, hL, HM.out]
    exact ⟨rfl, rfl⟩))
  obtain ⟨m0, hm⟩ : ∃ m0, m0 = fM r := ⟨_, rfl⟩
  obtain ⟨e0, he⟩ : ∃ e0, e0 = fE r := ⟨_, rfl⟩
  have hmv : m0 = M * 2 ^ k := by rw [hm]; unfold fM; rw [HM.out, hk, hL, HM.out]
  rw [← hm, ← he] at HG
  have mw : IntKind.u64.wrap ((M : Int) * 2 ^ k) = (m0 : Int) := by
    have h := HG.out.r.hi
    rw [IntKind.wrap_u64, hmv]
    have e : ((M * 2 ^ k : Nat) : Int) = (M : Int) * 2 ^ k := by rw [Int.natCast_mul, Int.natCast_pow]; rfl
    rw [← e]
    omega
  have ew : (-1022) - (k : Int) - 52 = e0 := by rw [he]; unfold fE; rw [HX.out, ← hL, ← hk]; omega
  obtain ⟨u, hu⟩ : ∃ u, u = shD m0 e0 := ⟨_, rfl⟩
  obtain ⟨v, hv⟩ : ∃ v, v = shP m0 e0 := ⟨_, rfl⟩
  obtain ⟨u1, u2⟩ := shD_bd HG.out
  obtain ⟨v1, v2⟩ := shP_bd HG.out
  rw [← hu] at u1 u2
  rw [← hv] at v1 v2
  obtain ⟨D, hDe⟩ : ∃ D, D = fD r := ⟨_, rfl⟩
  have hDe2 : D = trim (Lib.decDigits u) := by rw [hDe, hu, hm, he]; rfl
  obtain ⟨dp, hdp⟩ : ∃ dp, dp = fP r := ⟨_, rfl⟩
  have hdp2 : ((Lib.decDigits u).length : Int) + v = dp := by rw [hdp, hv, hu, hm, he]; rfl
  have hln := dd_len u (by omega)
  have hD1 : 0 < D.length := by rw [hDe2]; exact trim_pos u u1
  have hD2 : D.length ≤ 20 := by rw [hDe2]; exact Nat.le_trans (trim_le _) hln
  have hdl : 1 ≤ (Lib.decDigits u).length := dec_len_pos u
  have hdpb : -390 ≤ dp ∧ dp ≤ 390 := by omega
  rw [← hDe, ← hdp]
  have HSh := Lib.hid (fun (W : World) (h : Below w.heap.size w W) => short_any B m0 e0 W HG.out (hP W h))
  have HNu := Lib.hid (fun (W : World) (h : Below w.heap.size w W) => Tryz.internal_strconv_numDigits u u1 (by omega) W (hT W h))
  have HW := Lib.hid (show ∀ n, Below w.heap.size w ((w.drewN n).alloc (Obj.cells #[.int .u8 0, .int .u8 0, .int .u8 0, .int .u8 0, .int .u8 0, .int .u8 0, .int .u8 0, .int .u8 0, .int .u8 0, .int .u8 0, .int .u8 0, .int .u8 0, .int .u8 0, .int .u8 0, .int .u8 0, .int .u8 0, .int .u8 0, .int .u8 0, .int .u8 0, .int .u8 0, .int .u8 0, .int .u8 0, .int .u8 0, .int .u8 0, .int .u8 0, .int .u8 0, .int .u8 0, .int .u8 0, .int .u8 0, .int .u8 0, .int .u8 0, .int .u8 0] 188)) ∧ ((w.drewN n).alloc (Obj.cells #[.int .u8 0, .int .u8 0, .int .u8 0, .int .u8 0, .int .u8 0, .int .u8 0, .int .u8 0, .int .u8 0, .int .u8 0, .int .u8 0, .int .u8 0, .int .u8 0, .int .u8 0, .int .u8 0, .int .u8 0, .int .u8 0, .int .u8 0, .int .u8 0, .int .u8 0, .int .u8 0, .int .u8 0, .int .u8 0, .int .u8 0, .int .u8 0, .int .u8 0, .int .u8 0, .int .u8 0, .int .u8 0, .int .u8 0, .int .u8 0, .int .u8 0, .int .u8 0] 188)).heap[w.heap.size]? = some (.cells (Array.replicate 32 (.int .u8 0)) 188 (0, 0)) ∧ w.heap.size < ((w.drewN n).alloc (Obj.cells #[.int .u8 0, .int .u8 0, .int .u8 0, .int .u8 0, .int .u8 0, .int .u8 0, .int .u8 0, .int .u8 0, .int .u8 0, .int .u8 0, .int .u8 0, .int .u8 0, .int .u8 0, .int .u8 0, .int .u8 0, .int .u8 0, .int .u8 0, .int .u8 0, .int .u8 0, .int .u8 0, .int .u8 0, .int .u8 0, .int .u8 0, .int .u8 0, .int .u8 0, .int .u8 0, .int .u8 0, .int .u8 0, .int .u8 0, .int .u8 0, .int .u8 0, .int .u8 0] 188)).heap.size from fun n => ⟨Below.alloc (show Below w.heap.size w (w.drewN n) from ⟨rfl, rfl, rfl, Nat.le_refl _, fun _ _ => rfl⟩) (Nat.le_refl _) _, by
    rw [show (Array.replicate 32 (Value.int .u8 0)) = #[.int .u8 0, .int .u8 0, .int .u8 0, .int .u8 0, .int .u8 0, .int .u8 0, .int .u8 0, .int .u8 0, .int .u8 0, .int .u8 0, .int .u8 0, .int .u8 0, .int .u8 0, .int .u8 0, .int .u8 0, .int .u8 0, .int .u8 0, .int .u8 0, .int .u8 0, .int .u8 0, .int .u8 0, .int .u8 0, .int .u8 0, .int .u8 0, .int .u8 0, .int .u8 0, .int .u8 0, .int .u8 0, .int .u8 0, .int .u8 0, .int .u8 0, .int .u8 0] from rfl]
    show (w.heap.push _)[w.heap.size]? = _
    simp, by
    show w.heap.size < (w.heap.push _).size
    simp⟩)
  rw [← hu, ← hv] at HSh
  have HSd := Lib.hid (show ∀ W : World, W.heap[w.heap.size]? = some (.cells (Array.replicate 32 (.int .u8 0)) 188 (0, 0)) → Calls Tryz.prog 130 #[.slice (some ⟨w.heap.size, 0, none⟩) 32 32, .int .u64 (u : Int), .int .i64 v, .int .i64 (Lib.nDigits u : Int)] W
      (fun e w' => e = .returned (.tuple #[.int .i64 dp, .int .i64 (D.length : Int)]) ∧ Digs32 w.heap.size D w' ∧ Touch [w.heap.size] W w') from fun W h => (setDigits_any w.heap.size u v _ W h u1 (by omega) (by omega) (by omega)).mono (by
    rintro e w' ⟨rfl, h1, h2⟩
    rw [hdp2, ← hDe2]
    exact ⟨rfl, digs_trim h1 hDe2, h2⟩))
  have HUd := Lib.hid hDe2
  have HDp := Lib.hid hdp2
  clear hP hT hm he hmv hu hv hDe hDe2 hdp hdp2 hln hdl
  have HL := Lib.hid hL
  have HK := Lib.hid hk
  clear hb hQ hE hM e52 hd hL hk bl1 bl2
  go_enter Tryz.func89, Tryz.ntmps89
  go_wp2
  go_quiet (fail)
  go_wp2_with (go_at_call 112; refine (HLen.out _).mono ?_; rintro e w' ⟨rfl, rfl⟩)
  try go_at_call 135
  refine (HSh.out ((w.drewN _).alloc _) (HW.out _).1).mono ?_
  rintro e w1 ⟨rfl, hb1⟩
  have HB1 := Lib.hid (show Below w.heap.size w w1 ∧ w1.heap[w.heap.size]? = some (.cells (Array.replicate 32 (.int .u8 0)) 188 (0, 0)) from ⟨(HW.out _).1.trans (hb1.mono (HW.out _).1.size), (hb1.block _ (HW.out _).2.2).trans (HW.out _).2.1⟩)
  clear hb1 HW
  go_wp2
  go_region_with (first
    | (go_at_call 85; refine (HNu.out _ (show Below w.heap.size w (w1.drewN 1) from HB1.out.1.trans ⟨rfl, rfl, rfl, Nat.le_refl _, fun _ _ => rfl⟩)).mono ?_; rintro e w' ⟨rfl, rfl⟩)
    | (go_at_call 130; refine (HSd.out (w1.drewN 1) HB1.out.2).mono ?_; rintro e w2 ⟨rfl, hdg, ht2⟩))
  all_goals (
    have hb2 : Below w.heap.size w w2 := (show Below w.heap.size w (w1.drewN 1) from HB1.out.1.trans ⟨rfl, rfl, rfl, Nat.le_refl _, fun _ _ => rfl⟩).trans (Touch.below ht2 (by simp) HB1.out.1.size)
    have HT2 := Lib.hid (touch_weak (S := [eb]) (Touch.of_below hb2))
    have hd2 := dst_touch HD.out (Touch.of_below hb2) (by simp)
    have hlt := Lib.lt_of_heap HD.out.1
    clear hb2 ht2
    go_wp2_with fail
    try go_at_call 128
    refine (fmtE true eb w.heap.size dp cur D w2 hd2 hdg (by omega) hD1 hD2 (by omega) (by omega)).mono ?_
    rintro e w3 ⟨rfl, hd3, ht3⟩
    have HF3 := Lib.hid (show Dst eb cur _ w3 ∧ Touch [eb] w w3 from ⟨hd3, HT2.out.trans ht3⟩)
    clear hd3 ht3 hd2 hdg
    go_wp2
    go_ret
    exact ⟨rfl, HF3.out⟩)
set_option maxRecDepth 100000 in
set_option maxHeartbeats 1600000 in
theorem ftoa_zp (eb : Nat) (cur : Array Value) (w : World) (hd : Dst eb cur [] w) :
    Calls Tryz.prog 89 #[.slice (some ⟨eb, 1, none⟩) 0 64, .float .f64 0, .int .u8 102, .int .i64 (-1)] w (FmtPost eb cur (sgn false ++ [48]) w) := by
  have h1 : bits .and .i64 0 2047 = 0 := by decide +kernel
  have h2 : bits .and .u64 0 4503599627370495 = 0 := by decide +kernel
  have HD := Lib.hid hd
  clear hd
  go_enter Tryz.func89, Tryz.ntmps89
  go_wp2
  try go_quiet (fail)
  go_wp2_with fail
  try go_at_call 128
  refine (fmZ_false eb cur _ (dst_drewN HD.out _)).mono ?_
  rintro e w3 ⟨rfl, hd3, ht3⟩
  have HF3 := Lib.hid (show Dst eb cur _ w3 ∧ Touch [eb] w w3 from ⟨hd3, ((Touch.refl [eb] w).drewN _).trans ht3⟩)
  clear hd3 ht3
  go_wp2
  go_ret
  exact ⟨rfl, HF3.out⟩
set_option maxRecDepth 100000 in
set_option maxHeartbeats 1600000 in
theorem ftoa_zn (eb : Nat) (cur : Array Value) (w : World) (hd : Dst eb cur [] w) :
    Calls Tryz.prog 89 #[.slice (some ⟨eb, 1, none⟩) 0 64, .float .f64 9223372036854775808, .int .u8 102, .int .i64 (-1)] w (FmtPost eb cur (sgn true ++ [48]) w) := by
  have h1 : bits .and .i64 2048 2047 = 0 := by decide +kernel
  have h2 : bits .and .u64 9223372036854775808 4503599627370495 = 0 := by decide +kernel
  have HD := Lib.hid hd
  clear hd
  go_enter Tryz.func89, Tryz.ntmps89
  go_wp2
  try go_quiet (fail)
  go_wp2_with fail
  try go_at_call 128
  refine (fmZ_true eb cur _ (dst_drewN HD.out _)).mono ?_
  rintro e w3 ⟨rfl, hd3, ht3⟩
  have HF3 := Lib.hid (show Dst eb cur _ w3 ∧ Touch [eb] w w3 from ⟨hd3, ((Touch.refl [eb] w).drewN _).trans ht3⟩)
  clear hd3 ht3
  go_wp2
  go_ret
  exact ⟨rfl, HF3.out⟩
end Go.Proofs.YtdkccihoecpcaaaGreatFmt
