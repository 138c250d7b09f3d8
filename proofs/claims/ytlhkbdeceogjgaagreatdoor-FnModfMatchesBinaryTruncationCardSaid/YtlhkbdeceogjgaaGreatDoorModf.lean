/- math.Modf's parts, and the law's own way of finding the same, walked; the law on modf. Conditions: none. -/
import Derived.Test.YtlhkbdeceogjgaaGreatDoorModfPlain
import Derived.Test.YtlhkbdeceogjgaaGreatDoorFrexp
namespace Go.Proofs.YtlhkbdeceogjgaaGreatDoor
open Go.RowKit Go
theorem top_bit (s : Bool) (r : Nat) (h : r < 9223372036854775808) : bits .and .u64 ((Ieee.double.word s r : Nat) : Int) 9223372036854775808 = ((s.toNat * 9223372036854775808 : Nat) : Int) := by
  have e := bits_and_u64_nat (Ieee.double.word s r) 9223372036854775808 (word_lt s r h) (by omega)
  have p63 : (2 : Nat) ^ 63 = 9223372036854775808 := by decide
  have e2 : Ieee.double.word s r &&& 9223372036854775808 = s.toNat * 9223372036854775808 := by
    have a1 : Ieee.double.word s r = 2 ^ 63 * s.toNat + r := by rw [word_nat, p63, Nat.mul_comm]
    have a2 : 9223372036854775808 = 2 ^ 63 * 1 + 0 := by decide
    conv => lhs; rw [a1, a2]
    rw [and_split 63 _ _ _ _ (by rw [p63]; exact h) (by decide), Nat.and_zero, p63]
    cases s <;> simp
  rw [e2] at e
  exact e
theorem put_sign (s : Bool) (r : Nat) (h : r < 9223372036854775808) : bits .or .u64 (r : Int) ((s.toNat * 9223372036854775808 : Nat) : Int) = ((Ieee.double.word s r : Nat) : Int) := by
  have e := bits_or_u64_nat r (s.toNat * 9223372036854775808) (by omega) (by cases s <;> simp)
  have p63 : (2 : Nat) ^ 63 = 9223372036854775808 := by decide
  have e2 : r ||| s.toNat * 9223372036854775808 = Ieee.double.word s r := by
    have a1 : r = 2 ^ 63 * 0 + r := by omega
    have a2 : s.toNat * 9223372036854775808 = 2 ^ 63 * s.toNat + 0 := by rw [p63, Nat.mul_comm, Nat.add_zero]
    conv => lhs; rw [a1, a2]
    rw [or_split 63 _ _ _ _ (by rw [p63]; exact h) (by decide), Nat.or_zero, Nat.zero_or, p63, word_nat, Nat.mul_comm]
  rw [e2] at e
  exact e
theorem copysign_any (s s' : Bool) (r r' : Nat) (h : r < 9223372036854775808) (h' : r' < 9223372036854775808) (w : World) : Calls Tryz.prog 67 #[.float .f64 (Ieee.double.word s r), .float .f64 (Ieee.double.word s' r')] w (Ret (.float .f64 (Ieee.double.word s' r)) w) := by
  have h1 := abs_bits s r h
  have h2 := top_bit s' r' h'
  have h3 := put_sign s' r h
  generalize Ieee.double.word s r = X at *
  generalize Ieee.double.word s' r' = Y at *
  generalize Ieee.double.word s' r = Z at *
  generalize s'.toNat * 9223372036854775808 = T at *
  go_enter Tryz.func67, Tryz.ntmps67
  go_wp2
  go_ret
  exact ⟨by first | rfl | simp, rfl⟩
theorem trunc_entry (x : Nat) (s : Bool) (m : Nat) (i : Int) (hd : FloatKind.f64.decode x = .number s m i) :
    Extern.MathFloor.toIntegral "math.archTrunc" .zero #[.float .f64 x] = pure (.float .f64 (FloatKind.f64.encode ((Ieee.Datum.number s m i).integral .zero))) := by
  conv => lhs; whnf
  rw [hd]
theorem trunc_entry_nan (x : Nat) (s : Bool) (t : Nat) (hd : FloatKind.f64.decode x = .nan s t) :
    (FloatKind.f64.format.quiet t = t → Extern.MathFloor.toIntegral "math.archTrunc" .zero #[.float .f64 x] = pure (.float .f64 x)) ∧
    (¬ FloatKind.f64.format.quiet t = t → ∀ (P : Program) (w : World), ∃ y, (y = x ∨ y = FloatKind.f64.encode (.nan s (FloatKind.f64.format.quiet t))) ∧ (Extern.MathFloor.toIntegral "math.archTrunc" .zero #[.float .f64 x]).run P w = .ok (.float .f64 y) w.drew) := by
  constructor
  · intro h
    conv => lhs; whnf
    rw [hd]
    exact if_pos h
  · intro h P w
    conv => rhs; ext y; rhs; lhs; arg 2; whnf
    rw [hd]
    simp only [if_neg h]
    refine ⟨_, ?_, by simp only [Sem.run_bind, run_choose_drew, Question.forced, Sem.run_pure]; rfl⟩
    split
    · exact Or.inl rfl
    · exact Or.inr rfl
theorem run_trunc (s : Bool) (r u : Nat) (h : r < Ieee.double.infRung) (hu : u < Ieee.double.infRung) (hv : val u = whole r * U) (w : World) :
    (callFunc 123 #[.float .f64 (Ieee.double.word s r)]).run Tryz.prog w = .ok (.value (.float .f64 (Ieee.double.word s u))) w := by
  rw [run_callFunc_extern Tryz.func123 (by kernel_rfl) (by kernel_rfl) (by kernel_rfl) (e := Extern.MathFloor.toIntegral "math.archTrunc" .zero) (by kernel_rfl)]
  have hd : FloatKind.f64.decode (Ieee.double.word s r) = .number s (mg r) (pl r) := read_finite s r h
  have ht := trunc_word s r u h hu hv
  rw [read_finite s r h] at ht
  have he : FloatKind.f64.encode ((Ieee.Datum.number s (mg r) (pl r)).integral .zero) = Ieee.double.word s u := ht
  rw [trunc_entry _ _ _ _ hd, he]
  rfl
/-- What math.Modf answers on a finite number: the whole part and the rest, both of its sign. -/
theorem modf_any (s : Bool) (r t u : Nat) (h : r < Ieee.double.infRung) (ht : t < Ieee.double.infRung) (hu : u < Ieee.double.infRung) (hvt : val t = whole r * U) (hvu : val u = val r - whole r * U) (w : World) :
    Calls Tryz.prog 68 #[.float .f64 (Ieee.double.word s r)] w (Ret (.tuple #[.float .f64 (Ieee.double.word s t), .float .f64 (Ieee.double.word s u)]) w) := by
  have h1 := run_trunc s r t h ht hvt
  have hs := sub_same s r t u h ht hu (by rw [hvt]; exact whole_mul_le r) (by rw [hvt]; exact hvu)
  have hop : ∀ ty w, (binOp .sub ty (.float .f64 (Ieee.double.word s r)) (.float .f64 (Ieee.double.word s t))).run Tryz.prog w = .ok (.float .f64 (Ieee.double.word (if u = 0 then false else s) u)) w := fun ty w => run_float_arith w .sub ty .f64 _ _ _ hs
  rw [d_inf] at h hu
  have hc := copysign_any (if u = 0 then false else s) s u r (by omega) (by omega)
  clear hs hvt hvu
  generalize Ieee.double.word s r = X at *
  generalize Ieee.double.word s t = T at *
  generalize Ieee.double.word s u = R at *
  generalize Ieee.double.word (if u = 0 then false else s) u = Q at *
  go_enter Tryz.func68, Tryz.ntmps68
  go_wp2_with (first | (go_at_call 99; go_in) | (go_at_call 67; refine (hc _).mono ?_; rintro e w' ⟨rfl, rfl⟩))
  go_ret2
  exact ⟨rfl, rfl⟩
/-! ### A NaN -/
def NaNW (y : Nat) : Prop := ∃ s r, 9218868437227405312 < r ∧ r < 9223372036854775808 ∧ y = Ieee.double.word s r
def RetD (v : Value) (w : World) (e : Ending) (w' : World) : Prop := e = .returned v ∧ ∃ n, w' = w.drewN n
theorem quiet_nan (s : Bool) (t : Nat) (h : t < E52) : NaNW (FloatKind.f64.encode (.nan s (FloatKind.f64.format.quiet t))) := by
  have e1 : FloatKind.f64.encode (.nan s (FloatKind.f64.format.quiet t)) = Ieee.double.word s (Ieee.double.infRung + (t ||| 2 ^ 51) % E52) := rfl
  have p51 : (2 : Nat) ^ 51 = 2251799813685248 := by decide
  have p52 : (2 : Nat) ^ 52 = E52 := by decide
  have hl : t ||| 2 ^ 51 < 2 ^ 52 := Nat.or_lt_two_pow (by rw [p52]; exact h) (by decide)
  have hg : 2 ^ 51 ≤ t ||| 2 ^ 51 := Nat.right_le_or
  rw [p52] at hl
  refine ⟨s, Ieee.double.infRung + (t ||| 2 ^ 51) % E52, ?_, ?_, e1⟩
  · rw [d_inf, Nat.mod_eq_of_lt hl]; omega
  · rw [d_inf, Nat.mod_eq_of_lt hl]; unfold E52 at hl; omega
theorem decode_nan (s : Bool) (r : Nat) (h : 9218868437227405312 < r) (h' : r < 9223372036854775808) : FloatKind.f64.decode (Ieee.double.word s r) = .nan s (r - 9218868437227405312) := by
  show Ieee.double.read (Ieee.double.word s r) = _
  have hm : Ieee.double.word s r % Ieee.double.signWeight = r := by rw [word_nat, d_sign]; cases s <;> simp <;> omega
  have hs : (Ieee.double.word s r / Ieee.double.signWeight % 2 == 1) = s := by rw [word_nat, d_sign]; cases s <;> simp <;> omega
  unfold Ieee.Format.read
  simp only [hm, hs, d_binade, d_inf]
  rw [if_neg (by unfold E52; omega), if_neg (by omega), if_neg (by omega)]
theorem run_trunc_nan (s : Bool) (r : Nat) (h : 9218868437227405312 < r) (h' : r < 9223372036854775808) : ∃ (k : Nat) (T : World → Nat), ∀ w : World,
    (callFunc 123 #[.float .f64 (Ieee.double.word s r)]).run Tryz.prog w = .ok (.value (.float .f64 (T w))) (w.drewN k) ∧ NaNW (T w) := by
  have hd := decode_nan s r h h'
  have hx : ∀ w : World, (callFunc 123 #[.float .f64 (Ieee.double.word s r)]).run Tryz.prog w = ((Extern.MathFloor.toIntegral "math.archTrunc" .zero #[.float .f64 (Ieee.double.word s r)]).run Tryz.prog w).andThen fun v w' => .ok (.value v) w' := fun w => by
    rw [run_callFunc_extern Tryz.func123 (by kernel_rfl) (by kernel_rfl) (by kernel_rfl) (e := Extern.MathFloor.toIntegral "math.archTrunc" .zero) (by kernel_rfl)]
  obtain ⟨t1, t2⟩ := trunc_entry_nan _ _ _ hd
  by_cases hq : FloatKind.f64.format.quiet (r - 9218868437227405312) = r - 9218868437227405312
  · refine ⟨0, fun _ => Ieee.double.word s r, fun w => ⟨?_, s, r, h, h', rfl⟩⟩
    rw [hx, t1 hq]
    rfl
  · have hT := fun w => t2 hq Tryz.prog w
    refine ⟨1, fun w => (hT w).choose, fun w => ⟨?_, ?_⟩⟩
    · rw [hx, (hT w).choose_spec.2]
      rfl
    · show NaNW (hT w).choose
      rcases (hT w).choose_spec.1 with e | e
      · rw [e]; exact ⟨s, r, h, h', rfl⟩
      · rw [e]; exact quiet_nan s _ (by unfold E52; omega)
theorem nan_cut (x y t : Nat) : NaNW (Question.cut (.nanBits .f64 x y) t) := by
  refine ⟨decide (t % 2 = 1), 9218868437227405312 + 1 + (t / 2) % (2 ^ 52 - 1), by omega, ?_, ?_⟩
  · have : (t / 2) % (2 ^ 52 - 1) < 2 ^ 52 - 1 := Nat.mod_lt _ (by decide)
    have e : (2 : Nat) ^ 52 - 1 = 4503599627370495 := by decide
    omega
  · rw [word_nat]
    show (t % 2) * 2 ^ 63 + 0x7ff0000000000000 + 1 + (t / 2) % (2 ^ 52 - 1) = _
    have e : (2 : Nat) ^ 63 = 9223372036854775808 := by decide
    rw [e]
    by_cases h : t % 2 = 1
    · rw [decide_eq_true h, h]; simp <;> omega
    · have h' : t % 2 = 0 := by omega
      rw [decide_eq_false h, h']; simp <;> omega
theorem sub_nan (s : Bool) (r b : Nat) (h : 9218868437227405312 < r) (h' : r < 9223372036854775808) : Ieee.double.sub (Ieee.double.word s r) b = none := by
  have hd : Ieee.double.read (Ieee.double.word s r) = .nan s (r - 9218868437227405312) := decode_nan s r h h'
  unfold Ieee.Format.sub
  rw [hd]
  rfl
theorem run_sub_nan {P : Program} (x y : Nat) (h : Ieee.double.sub x y = none) (t : TypeId) (w : World) :
    (binOp .sub t (.float .f64 x) (.float .f64 y)).run P w = .ok (.float .f64 (Question.cut (.nanBits .f64 x y) (w.tape w.drawn (.nanBits .f64 x y)))) w.drew := by
  have h' : FloatKind.f64.format.sub x y = none := h
  simp [binOp, Op.floatArith, h', Question.forced]
theorem copysign_nan (s : Bool) (r y : Nat) (_h : 9218868437227405312 < r) (h' : r < 9223372036854775808) (hy : NaNW y) (w : World) :
    Calls Tryz.prog 67 #[.float .f64 y, .float .f64 (Ieee.double.word s r)] w fun e w' => ∃ z, NaNW z ∧ Ret (.float .f64 z) w e w' := by
  obtain ⟨s', r', h1, h2, rfl⟩ := hy
  exact (copysign_any s' s r' r h2 h' w).mono fun _ _ hr => ⟨_, ⟨s, r', h1, h2, rfl⟩, hr⟩
theorem modf_nan (s : Bool) (r : Nat) (h : 9218868437227405312 < r) (h' : r < 9223372036854775808) (w : World) :
    Calls Tryz.prog 68 #[.float .f64 (Ieee.double.word s r)] w fun e w' => ∃ y z, (NaNW y ∧ NaNW z) ∧ RetD (.tuple #[.float .f64 y, .float .f64 z]) w e w' := by
  obtain ⟨k, T, hT⟩ := run_trunc_nan s r h h'
  have h1 := fun w => (hT w).1
  have HT := Lib.hid (fun w => (hT w).2)
  clear hT
  obtain ⟨N, hN, hN2⟩ : ∃ N : Nat → World → Nat, (∀ (b : Nat) (t : TypeId) (w : World), (binOp .sub t (.float .f64 (Ieee.double.word s r)) (.float .f64 b)).run Tryz.prog w = .ok (.float .f64 (N b w)) w.drew) ∧ ∀ b w, NaNW (N b w) :=
    ⟨fun b w => Question.cut (.nanBits .f64 (Ieee.double.word s r) b) (w.tape w.drawn (.nanBits .f64 (Ieee.double.word s r) b)), fun b t w => run_sub_nan _ b (sub_nan s r b h h') t w, fun b w => nan_cut _ _ _⟩
  have HN := Lib.hid hN2
  clear hN2
  have hc := fun y hy w => copysign_nan s r y h h' hy w
  have HC := Lib.hid hc
  clear hc h h'
  generalize Ieee.double.word s r = X at *
  go_enter Tryz.func68, Tryz.ntmps68
  go_wp2_with (go_at_call 99; go_in)
  refine (HC.out _ (HN.out _ _) _).mono ?_
  rintro e w' ⟨z, hz, rfl, rfl⟩
  have HZ := Lib.hid hz
  clear hz
  go_wp2
  go_ret2
  exact ⟨_, z, ⟨HT.out _, HZ.out⟩, rfl, k + 1, by first | rfl | simp [World.drewN_drewN]⟩
/-! ### jq's modf -/
theorem modfParts_any (b : Nat) (y z : Nat) (w : World) (h0 : w.cell? ⟨b, 0, none⟩ = some (.iface 22 (.float .f64 y))) (h1 : w.cell? ⟨b, 1, none⟩ = some (.iface 22 (.float .f64 z))) :
    Calls Tryz.prog 50 #[.iface 68 (.slice (some ⟨b, 0, none⟩) 2 2)] w (Ret (.tuple #[.float .f64 y, .float .f64 z, .bool true]) w) := by
  go_enter Tryz.func50, Tryz.ntmps50
  go_wp2
  go_ret3
  exact ⟨rfl, rfl⟩
theorem funcModf_of (X : Nat) (Q : Nat → Nat → Prop) (w : World) (hi : ∀ w, Calls Tryz.prog 66 #[.float .f64 X, .int .i64 0] w (Ret (.bool false) w))
    (hM : Calls Tryz.prog 68 #[.float .f64 X] w fun e w' => ∃ y z, Q y z ∧ RetD (.tuple #[.float .f64 y, .float .f64 z]) w e w') :
    Calls Tryz.prog 51 #[.iface 22 (.float .f64 X)] w fun e w' => ∃ y z n, Q y z ∧ e = .returned (.iface 68 (.slice (some ⟨w.heap.size, 0, none⟩) 2 2)) ∧
      w' = (w.drewN n).alloc (.cells #[.iface 22 (.float .f64 z), .iface 22 (.float .f64 y)] 20) := by
  have HM := Lib.hid hM
  clear hM
  go_enter Tryz.func51, Tryz.ntmps51
  go_wp2_with (first | (go_at_call 64; refine (toFloat_any _ _).mono ?_; rintro e w' ⟨rfl, rfl⟩) | (go_at_call 66; refine (hi _).mono ?_; rintro e w' ⟨rfl, rfl⟩))
  refine HM.out.mono ?_
  rintro e w' ⟨y, z, hq, rfl, n, rfl⟩
  have HQ := Lib.hid hq
  clear hq
  go_wp2
  go_ret
  exact ⟨y, z, n, HQ.out, by first | rfl | simp, rfl⟩
theorem funcModf_inf (s : Bool) (w : World) : Calls Tryz.prog 51 #[.iface 22 (.float .f64 (Ieee.double.word s 9218868437227405312))] w
    (Ret (.iface 68 (.slice (some ⟨w.heap.size, 0, none⟩) 2 2)) (w.alloc (.cells #[.iface 22 (.float .f64 (Ieee.double.word s 0)), .iface 22 (.float .f64 (Ieee.double.word s 9218868437227405312))] 20))) := by
  have hi := isInf_any s 9218868437227405312 (by omega)
  rw [decide_eq_true rfl] at hi
  have hc := copysign_any false s 0 9218868437227405312 (by omega) (by omega)
  rw [word_false] at hc
  generalize Ieee.double.word s 9218868437227405312 = X at *
  generalize Ieee.double.word s 0 = Z at *
  go_enter Tryz.func51, Tryz.ntmps51
  go_wp2_with (first | (go_at_call 64; refine (toFloat_any _ _).mono ?_; rintro e w' ⟨rfl, rfl⟩) | (go_at_call 66; refine (hi _).mono ?_; rintro e w' ⟨rfl, rfl⟩) | (go_at_call 67; refine (hc _).mono ?_; rintro e w' ⟨rfl, rfl⟩))
  go_ret
  exact ⟨by first | rfl | simp, rfl⟩
theorem funcModf_all (s : Bool) (r : Nat) (h : r < 9223372036854775808) (w : World) : Calls Tryz.prog 51 #[.iface 22 (.float .f64 (Ieee.double.word s r))] w fun e w' => ∃ y z n,
    ((9218868437227405312 < r ∧ NaNW y ∧ NaNW z) ∨ (r ≤ 9218868437227405312 ∧ ∃ t u, t ≤ 9218868437227405312 ∧ u < 9218868437227405312 ∧ y = Ieee.double.word s t ∧ z = Ieee.double.word s u ∧ (4841369599423283200 ≤ r → t = r ∧ u = 0) ∧ (r < 4841369599423283200 → t < 9218868437227405312 ∧ val t = whole r * U ∧ val u = val r - whole r * U))) ∧
      e = .returned (.iface 68 (.slice (some ⟨w.heap.size, 0, none⟩) 2 2)) ∧ w' = (w.drewN n).alloc (.cells #[.iface 22 (.float .f64 z), .iface 22 (.float .f64 y)] 20) := by
  by_cases e : r = 9218868437227405312
  · subst e
    refine (funcModf_inf s w).mono ?_
    rintro e w' ⟨rfl, rfl⟩
    exact ⟨_, _, 0, Or.inr ⟨by omega, 9218868437227405312, 0, by omega, by omega, rfl, rfl, fun _ => ⟨rfl, rfl⟩, fun h => by omega⟩, rfl, rfl⟩
  · have hi := isInf_any s r h
    rw [decide_eq_false e] at hi
    by_cases e2 : 9218868437227405312 < r
    · refine (funcModf_of _ _ w hi (modf_nan s r e2 h w)).mono ?_
      rintro e w' ⟨y, z, n, hq, he, hw⟩
      exact ⟨y, z, n, Or.inl ⟨e2, hq⟩, he, hw⟩
    · have hr : r < Ieee.double.infRung := by rw [d_inf]; omega
      obtain ⟨t, t1, t2⟩ := whole_float r hr
      obtain ⟨u, u1, u2⟩ := rest_float r hr
      refine (funcModf_of _ (fun y z => y = Ieee.double.word s t ∧ z = Ieee.double.word s u) w hi ((modf_any s r t u hr t1 u1 t2 u2 w).mono ?_)).mono ?_
      · rintro e w' ⟨rfl, rfl⟩
        exact ⟨_, _, ⟨rfl, rfl⟩, rfl, 0, rfl⟩
      · rintro e w' ⟨y, z, n, hq, he, hw⟩
        rw [d_inf] at t1 u1
        refine ⟨y, z, n, Or.inr ⟨by omega, t, u, by omega, u1, hq.1, hq.2, fun hb => ?_, fun _ => ⟨t1, t2, u2⟩⟩, he, hw⟩
        have hw2 := whole_big hb
        exact ⟨val_inj.1 (by rw [t2, hw2]), val_inj.1 (by rw [u2, hw2, Nat.sub_self]; rfl)⟩
theorem zz_modf_of (X : Nat) (Q : Nat → Nat → Prop) (w : World) (hM : Calls Tryz.prog 51 #[.iface 22 (.float .f64 X)] w fun e w' => ∃ y z n, Q y z ∧ e = .returned (.iface 68 (.slice (some ⟨w.heap.size, 0, none⟩) 2 2)) ∧
      w' = (w.drewN n).alloc (.cells #[.iface 22 (.float .f64 z), .iface 22 (.float .f64 y)] 20)) :
    Calls Tryz.prog 17 #[.float .f64 X] w fun e w' => ∃ y z, Q y z ∧ e = .returned (.tuple #[.float .f64 z, .float .f64 y, .bool true]) ∧ Below w.heap.size w w' := by
  have HM := Lib.hid hM
  clear hM
  go_enter Tryz.func17, Tryz.ntmps17
  go_wp2_with fail
  refine HM.out.mono ?_
  rintro e w' ⟨y, z, n, hq, rfl, rfl⟩
  have HQ := Lib.hid hq
  clear hq
  go_wp2_with fail
  refine (modfParts_any w.heap.size z y _ (by exact World.cell?_alloc_new (w.drewN n) _ _ 0) (by exact World.cell?_alloc_new (w.drewN n) _ _ 1)).mono ?_
  rintro e w' ⟨rfl, rfl⟩
  go_wp2
  go_ret3
  exact ⟨y, z, HQ.out, rfl, Below.alloc (show Below w.heap.size w (w.drewN n) from ⟨rfl, rfl, rfl, Nat.le_refl _, fun _ _ => rfl⟩) (Nat.le_refl _) _⟩
end Go.Proofs.YtlhkbdeceogjgaaGreatDoor
