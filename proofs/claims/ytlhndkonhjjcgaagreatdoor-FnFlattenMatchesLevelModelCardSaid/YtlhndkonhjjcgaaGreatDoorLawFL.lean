/- flatten against the law's model by levels: the law walked. Conditions: none. -/
import Derived.Test.YtlhndkonhjjcgaaGreatDoorFn
import Derived.Test.YtlhndkonhjjcgaaGreatDoorDepL
import Derived.Test.YtlhndkonhjjcgaaGreatDoorLawFC
namespace Go.Proofs.YtlhndkonhjjcgaaGreatDoor
open Go.RowKit Go
@[go_sem] theorem as_fde_arr (v : Value) (w : World) : (Instr.typeAssert (.iface 49 v) 20 35 true).run Tryz.prog w = .ok (.tuple #[.slice none 0 0, .bool false]) w := by kernel_rfl
set_option maxRecDepth 100000 in
theorem bytesFL_yes (ta va : Option Addr) (nt nv tc vc : Nat) (h : Bool) (d : Nat) (h1 : nt + nv ≤ 1048576) (w : World) : Calls Tryz.prog 12 #[.slice ta nt tc, .slice va nv vc, .bool h, .float .f64 d] w (Ret (.bool true) w) := by
  go_enter Tryz.func12, Tryz.ntmps12
  go_wp2
  go_ret
  exact ⟨rfl, rfl⟩
set_option maxRecDepth 100000 in
theorem bytesFL_no (ta va : Option Addr) (nt nv tc vc : Nat) (h : Bool) (d : Nat) (h0 : 1048576 < nt + nv) (h1 : nt ≤ 9223372036854775807) (h2 : nv ≤ 9223372036854775807) (w : World) : Calls Tryz.prog 12 #[.slice ta nt tc, .slice va nv vc, .bool h, .float .f64 d] w (Ret (.bool false) w) := by
  by_cases e1 : 1048576 < nt
  · go_enter Tryz.func12, Tryz.ntmps12
    go_wp2
    go_ret
    exact ⟨rfl, rfl⟩
  · by_cases e2 : 1048576 < nv
    · go_enter Tryz.func12, Tryz.ntmps12
      go_wp2
      go_ret
      exact ⟨rfl, rfl⟩
    · go_enter Tryz.func12, Tryz.ntmps12
      go_wp2
      go_ret
      exact ⟨rfl, rfl⟩
theorem toIntVal (s : Bool) (r : Nat) (hr : r < Ieee.double.infRung) (h : -9223372036854775808 ≤ (if s = true then -(whole r : Int) else (whole r : Int)) ∧ (if s = true then -(whole r : Int) else (whole r : Int)) ≤ 9223372036854775807) :
    floatToIntVal .f64 (Ieee.double.word s r) .i64 = some (if s = true then -(whole r : Int) else (whole r : Int)) := by
  have e : (FloatKind.f64.decode (Ieee.double.word s r)).toInt .zero = some (if s = true then -(whole r : Int) else (whole r : Int)) := by
    show (Ieee.double.read (Ieee.double.word s r)).toInt .zero = _
    rw [read_finite s r hr]
    show some (Ieee.signed s (Ieee.Toward.zero.cut s (mg r <<< (pl r).toNat) (-(pl r)).toNat) 0) = _
    rw [cut_whole]
    unfold Ieee.signed
    rw [Nat.shiftLeft_zero]
  unfold floatToIntVal
  rw [e]
  have h1 : IntKind.i64.min = -9223372036854775808 := by decide
  have h2 : IntKind.i64.max = 9223372036854775807 := by decide
  show (if IntKind.i64.min ≤ _ ∧ _ ≤ IntKind.i64.max then some _ else none) = _
  rw [h1, h2, if_pos h]
/-- The two tests against 2 to the 53. -/
theorem r53_tests (s : Bool) (r : Nat) (hr : r ≤ Ieee.double.infRung) (hs : s = true → r = 0) :
    (FloatKind.f64.format.order (Ieee.double.word s r) 4845873199050653696 == some .gt || FloatKind.f64.format.order (Ieee.double.word s r) 4845873199050653696 == some .eq) = decide (R53 ≤ r) ∧
    (FloatKind.f64.format.order (Ieee.double.word s r) 14069245235905429504 == some .lt || FloatKind.f64.format.order (Ieee.double.word s r) 14069245235905429504 == some .eq) = false := by
  have h1 : r ≤ 9218868437227405312 := by rw [d_inf] at hr; exact hr
  have e1 : (4845873199050653696 : Nat) = Ieee.double.word false R53 := by decide
  have e2 : (14069245235905429504 : Nat) = Ieee.double.word true R53 := by decide
  have hR : R53 ≤ 9218868437227405312 := by decide
  have hp : 0 < R53 := by decide
  obtain ⟨_, a2, a3⟩ := ord_pair s false r R53 h1 hR
  obtain ⟨b1, _, b3⟩ := ord_pair s true r R53 h1 hR
  rw [e1, e2, a2, a3, b1, b3]
  generalize R53 = q at *
  constructor
  · rw [Bool.eq_iff_iff, Bool.or_eq_true, decide_eq_true_iff, decide_eq_true_iff, decide_eq_true_iff]
    cases s with
    | false => show ((q : Int) < (r : Int) ∨ (r : Int) = (q : Int)) ↔ q ≤ r; omega
    | true =>
      have h0 := hs rfl
      subst h0
      show ((q : Int) < -((0 : Nat) : Int) ∨ -((0 : Nat) : Int) = (q : Int)) ↔ q ≤ 0
      omega
  · rw [Bool.or_eq_false_iff, decide_eq_false_iff_not, decide_eq_false_iff_not]
    cases s with
    | false => show ¬ ((r : Int) < -(q : Int)) ∧ ¬ ((r : Int) = -(q : Int)); omega
    | true =>
      have h0 := hs rfl
      subst h0
      show ¬ (-((0 : Nat) : Int) < -(q : Int)) ∧ ¬ (-((0 : Nat) : Int) = -(q : Int))
      omega
set_option maxRecDepth 100000 in
theorem integral_big (s : Bool) (r : Nat) (hr : r ≤ Ieee.double.infRung) (hs : s = true → r = 0) (h : R53 ≤ r) (w : World) : Calls Tryz.prog 13 #[.float .f64 (Ieee.double.word s r)] w (Ret (.bool true) w) := by
  obtain ⟨h1, _⟩ := r53_tests s r hr hs
  rw [decide_eq_true h] at h1
  generalize Ieee.double.word s r = X at *
  go_enter Tryz.func13, Tryz.ntmps13
  go_wp2
  all_goals go_ret
  all_goals exact ⟨rfl, rfl⟩
set_option maxRecDepth 100000 in
theorem integral_small (s : Bool) (r : Nat) (hs : s = true → r = 0) (h : r < R53) (w : World) : Calls Tryz.prog 13 #[.float .f64 (Ieee.double.word s r)] w (Ret (.bool (decide (whole r * U = val r))) w) := by
  have hrf : r < Ieee.double.infRung := Nat.lt_trans h r53_fin
  obtain ⟨h1, h2⟩ := r53_tests s r (Nat.le_of_lt hrf) hs
  rw [decide_eq_false (by omega)] at h1
  have hw : whole r < 9007199254740992 := by
    unfold whole
    rw [Nat.div_lt_iff_lt_mul U_pos, ← val_r53]
    exact val_mono h
  have hz : (if s = true then -(whole r : Int) else (whole r : Int)) = ((whole r : Nat) : Int) := by
    cases s
    · rfl
    · rw [hs rfl]; unfold whole; rw [val_zero, Nat.zero_div]; rfl
  have hcv := toIntVal s r hrf (by rw [hz]; omega)
  rw [hz] at hcv
  have hc : ∀ w, (convert 30 2 (.float .f64 (Ieee.double.word s r))).run Tryz.prog w = .ok (.int .i64 ((whole r : Nat) : Int)) w := fun w =>
    run_convert_float_int w 30 2 .f64 .i64 _ _ (by kernel_rfl) Tryz.underlying2 hcv
  obtain ⟨u, u1, u2, u3⟩ := of_nat (whole r) (by unfold E52; omega)
  have hq : (FloatKind.f64.format.order (floatOfInt .f64 ((whole r : Nat) : Int)) (Ieee.double.word s r) == some .eq) = decide (whole r * U = val r) := by
    rw [u2, (ord_pair false s u r (by rw [d_inf] at u1; omega) (by rw [d_inf] at hrf; omega)).2.2]
    apply decide_eq_decide.2
    have hk : u = r ↔ whole r * U = val r := by rw [← u3, val_inj]
    rw [← hk]
    cases s
    · rw [sv_false, sv_false]; omega
    · rw [hs rfl, sv_false, sv_true]; omega
  have HQ := Lib.hid hq
  clear hcv u1 u2 u3 hw hz hs hrf h hq
  generalize Ieee.double.word s r = X at *
  generalize whole r = n at *
  go_enter Tryz.func13, Tryz.ntmps13
  go_wp2
  go_ret
  exact ⟨ret_bool HQ.out, rfl⟩
/-- What is refused, through the export. -/
def ZZRef (w : World) (e : Ending) (w' : World) : Prop := e = .returned (.tuple #[.slice none 0 0, .slice none 0 0, .bool true]) ∧ Below w.heap.size w w'
set_option maxRecDepth 100000 in
set_option maxHeartbeats 3200000 in
theorem zz_refused (L : List (Nat × Int)) (hL : L.length ≤ 1048576) (f : Fo) (hf : L.map norm = f.enc) (d : Nat) (hlt : ltF d 0 = true) (ta va : Option Addr) (c1 c2 : Nat) (w : World) (hw : Toks w ta va L) :
    Calls Tryz.prog 9 #[.slice ta L.length c1, .slice va L.length c2, .bool true, .float .f64 d] w (ZZRef w) := by
  have HD := Lib.hid (dec_any L hL f hf ta va c1 c2 w hw)
  have HLt := Lib.hid hlt
  clear hw hf hlt
  generalize L.length = m at *
  go_enter Tryz.func9, Tryz.ntmps9
  go_wp2_with fail
  try go_at_call 14
  refine HD.out.mono ?_
  rintro e w1 ⟨ao, us, c, rfl, ka, kr, kb⟩
  have HKB := Lib.hid kb
  clear ka kr kb HD
  have HF := Lib.hid (fun v => fun_refused d HLt.out v w1.heap.size (w1.alloc (.cells #[.iface 30 (.float .f64 d)] 20)) (by rw [World.cell?_alloc_new]; rfl))
  go_wp2_with fail
  try go_at_call 15
  refine (HF.out _).mono ?_
  rintro e w3 ⟨p, rfl, hb3⟩
  have HB3 := Lib.hid (show Below w.heap.size w w3 from HKB.out.trans (((Below.refl _ _).alloc HKB.out.size _).trans (hb3.mono (by have := HKB.out.size; simp; omega))))
  clear hb3 HF HKB
  go_wp2
  go_ret3
  exact ⟨rfl, HB3.out⟩
set_option maxRecDepth 100000 in
set_option maxHeartbeats 3200000 in
theorem zz_all (L : List (Nat × Int)) (hL : L.length ≤ 1048576) (f : Fo) (hf : L.map norm = f.enc) (d : Nat) (ta va : Option Addr) (c1 c2 : Nat) (w : World) (hw : Toks w ta va L) :
    Calls Tryz.prog 9 #[.slice ta L.length c1, .slice va L.length c2, .bool false, .float .f64 d] w (ZZPost (f.flat none) w) := by
  have hsz : f.size ≤ 1048576 := by rw [← Fo.enc_len, ← hf, List.length_map]; exact hL
  have HD := Lib.hid (dec_any L hL f hf ta va c1 c2 w hw)
  have HSz := Lib.hid hsz
  have HFz := Lib.hid (Fo.flat_size f none)
  clear hw hf hsz
  generalize L.length = m at *
  go_enter Tryz.func9, Tryz.ntmps9
  go_wp2_with fail
  try go_at_call 14
  refine HD.out.mono ?_
  rintro e w1 ⟨ao, us, c, rfl, ka, kr, kb⟩
  have HKA := Lib.hid ka
  have HKR := Lib.hid kr
  have HKB := Lib.hid kb
  clear ka kr kb HD
  have HF := Lib.hid (fun_all (Rg w w1) f (dok_minus_one _) ao us c w1 (fun b hb => hb.2) HKA.out HKR.out HSz.out)
  go_wp2_with fail
  try go_at_call 15
  refine HF.out.mono ?_
  rintro e w3 ⟨ao3, us3, c3, rfl, ho3, hr3, hb3⟩
  have HO3 := Lib.hid (show ArrIn (· < w3.heap.size) w3 ao3 us3 ∧ Rep (· < w3.heap.size) w3 (f.flat none) us3 ∧ Below w.heap.size w w3 from ⟨ownG_arr ho3 (fun _ _ h => h), hr3.up (fun g hg => Nat.lt_of_lt_of_le hg.2 hb3.size), HKB.out.trans (hb3.mono HKB.out.size)⟩)
  clear ho3 hr3 hb3 HF HKA HKR HKB
  have HE := Lib.hid (fun (W : World) (t v : Value) (hb : Below w3.heap.size w3 W) (h : Two w3.heap.size t v [] [] W W) => encT_any (f.flat none) (· < w3.heap.size) w3.heap.size (fun _ h => h) t v ao3 us3 c3 W h (HO3.out.1.keep fun g hg => hb.block g hg) (HO3.out.2.1.keep fun g hg => hb.block g hg) (by have := HFz.out; have := HSz.out; omega))
  go_wp2_with fail
  refine (HE.out _ _ _ ?hb ?ht).mono ?_
  case hb => exact ((Below.refl _ _).alloc (Nat.le_refl _) _).alloc (by simp) _
  case ht =>
    have h1 : OwnG 5 w3.heap.size (.slice (some ⟨w3.heap.size, 0, none⟩) 0 0) [] ((w3.alloc (.cells #[] 5)).alloc (.cells #[] 3)) := World.ownsRow.alloc (World.ownsRow_lit w3 #[] 0 (Nat.le_refl _) (by decide) rfl) _
    have h2 : OwnG 3 w3.heap.size (.slice (some ⟨w3.heap.size + 1, 0, none⟩) 0 0) [] ((w3.alloc (.cells #[] 5)).alloc (.cells #[] 3)) := by
      have h := World.ownsRow_lit (base := w3.heap.size) (size := 1) (e := 3) (w3.alloc (.cells #[] 5)) #[] 0 (by simp) (by decide) rfl
      simpa [OwnG] using h
    exact ⟨h1, h2, Below.refl _ _, by simp; omega⟩
  rintro e w5 ⟨t, v, rfl, h5⟩
  obtain ⟨t5, c5, v5, d5, rfl, rfl, hT⟩ := two_toks h5
  have HX := Lib.hid (And.intro hT (show Below w.heap.size w w5 from HO3.out.2.2.trans ((((Below.refl _ _).alloc (Nat.le_refl _) _).alloc (by simp) _).trans h5.2.2.1 |>.mono HO3.out.2.2.size)))
  clear hT h5 HE HO3
  go_wp2
  go_ret3
  exact ⟨_, _, _, _, rfl, HX.out⟩
/-! ### The law's loop -/
def tv (l : List (Nat × Int)) : List Value := l.map fun t => .int .u8 (t.1 : Int)
def vv (l : List (Nat × Int)) : List Value := l.map fun t => .int .i64 t.2
/-- What a round knows: what stands written, and what is to come. -/
def Lev (P : Nat → Bool) (L : List (Nat × Int)) (E : List (Nat × Int)) (k l : Nat) : Prop := E ++ em P (L.drop k) l = em P L 0 ∧ wf (L.drop k) l = true ∧ E.length ≤ k
theorem lev_start (P : Nat → Bool) (L : List (Nat × Int)) (h : wf L 0 = true) : Lev P L [] 0 0 := ⟨rfl, h, Nat.zero_le _⟩
theorem lev_open {P : Nat → Bool} {L E : List (Nat × Int)} {k l : Nat} (h : Lev P L E k l) (hk : k < L.length) (e : (L[k]'hk).1 = 1) : Lev P L (E ++ if P l then [(1, 0)] else []) (k + 1) (l + 1) := by
  obtain ⟨h1, h2, h3⟩ := h
  rw [List.drop_eq_getElem_cons hk] at h1 h2
  rw [em, if_pos e] at h1
  rw [wf, if_pos e] at h2
  refine ⟨by rw [← h1]; simp, h2, ?_⟩
  rw [List.length_append]
  split <;> simp <;> omega
theorem lev_close {P : Nat → Bool} {L E : List (Nat × Int)} {k l : Nat} (h : Lev P L E k l) (hk : k < L.length) (e : (L[k]'hk).1 = 2) : 0 < l ∧ Lev P L (E ++ if P (l - 1) then [(2, 0)] else []) (k + 1) (l - 1) := by
  obtain ⟨h1, h2, h3⟩ := h
  rw [List.drop_eq_getElem_cons hk] at h1 h2
  rw [em, if_neg (by omega), if_pos e] at h1
  rw [wf, if_neg (by omega), if_pos e] at h2
  have hl : 0 < l := by
    rcases Nat.eq_zero_or_pos l with e0 | e0
    · rw [if_pos e0] at h2; cases h2
    · exact e0
  rw [if_neg (by omega)] at h2
  refine ⟨hl, by rw [← h1]; simp, h2, ?_⟩
  rw [List.length_append]
  split <;> simp <;> omega
theorem lev_leaf {P : Nat → Bool} {L E : List (Nat × Int)} {k l : Nat} (h : Lev P L E k l) (hk : k < L.length) (e1 : (L[k]'hk).1 ≠ 1) (e2 : (L[k]'hk).1 ≠ 2) : Lev P L (E ++ [(0, (L[k]'hk).2)]) (k + 1) l := by
  obtain ⟨h1, h2, h3⟩ := h
  rw [List.drop_eq_getElem_cons hk] at h1 h2
  rw [em, if_neg e1, if_neg e2] at h1
  rw [wf, if_neg e1, if_neg e2] at h2
  exact ⟨by rw [← h1]; simp, h2, by rw [List.length_append]; simp; omega⟩
theorem lev_end {P : Nat → Bool} {L E : List (Nat × Int)} {l : Nat} (h : Lev P L E L.length l) : E = em P L 0 := by
  have h1 := h.1
  rw [List.drop_of_length_le (Nat.le_refl _), em, List.append_nil] at h1
  exact h1
set_option maxRecDepth 100000 in
set_option maxHeartbeats 6400000 in
theorem core_no (ta va : Option Addr) (tc vc : Nat) (L : List (Nat × Int)) (f : Fo) (hf : L.map norm = f.enc) (hwf : wf L 0 = true) (d : Nat) (o : Option Nat) (P : Nat → Bool) (w : World) (hs1 : ArgIn .u8 w ta tc (L.map fun t => (t.1 : Int))) (hs2 : ArgIn .i64 w va vc (L.map fun t => t.2)) (hsz : 9 * L.length ≤ 1048576)
    (hz : ∀ ta va c1 c2 W, Toks W ta va L → Calls Tryz.prog 9 #[.slice ta L.length c1, .slice va L.length c2, .bool false, .float .f64 d] W (ZZPost (f.flat o) W))
    (hPf : ∀ l, P l = false)
    (hE : em P L 0 = (f.flat o).enc) :
    Calls Tryz.prog 4 #[.slice ta L.length tc, .slice va L.length vc, .bool false, .float .f64 d] w (LawPost w) := by
  have HY := Lib.hid (bytesFL_yes ta va L.length L.length tc vc false d (by omega))
  have HW := Lib.hid (wf_any ta tc _ w (by rw [List.length_map]; omega) hs1)
  rw [wfT_wf, hwf] at HW
  have HWf := Lib.hid hwf
  have HC1 := Lib.hid (fun W hW => cloneB ta tc _ W (by rw [List.length_map]; omega) (hs1.below hW))
  have HC2 := Lib.hid (fun W hW => cloneI va vc _ W (by rw [List.length_map]; omega) (hs2.below hW))
  have HZ := Lib.hid hz
  have HE := Lib.hid hE
  have HZl := Lib.hid (show (f.flat o).enc.length ≤ 1048576 from by
    have h1 := Fo.flat_size f o
    have h2 : f.size = L.length := by rw [← Fo.enc_len, ← hf, List.length_map]
    rw [Fo.enc_len]
    omega)
  simp only [List.length_map] at HC1 HC2 HW
  have HPf := Lib.hid hPf
  clear hPf
  clear hs1 hs2 hz hE hf hwf
  obtain ⟨n, hn⟩ : ∃ n, L.length = n := ⟨_, rfl⟩
  have HN := Lib.hid hn
  rw [hn] at HY HC1 HC2 HW HZ hsz ⊢
  clear hn
  go_enter Tryz.func4, Tryz.ntmps4
  go_wp2_with (go_at_call 12; refine (HY.out _).mono ?_; rintro e w' ⟨rfl, rfl⟩)
  try go_at_call 6
  refine HW.out.mono ?_
  rintro e w' ⟨rfl, nq, rfl⟩
  go_wp2_with fail
  try go_at_call 7
  refine (HC1.out _ (below_drewN nq)).mono ?_
  rintro e w1 ⟨ta1, tc1, rfl, k1, kb1⟩
  have HK1 := Lib.hid k1
  have HB1 := Lib.hid (show Below w.heap.size w w1 from (below_drewN nq).trans kb1)
  clear k1 kb1 HC1 HW
  go_wp2_with fail
  try go_at_call 8
  refine (HC2.out _ HB1.out).mono ?_
  rintro e w2 ⟨va1, vc1, rfl, k2, kb2⟩
  have HT2 := Lib.hid (toks_of HK1.out kb2 k2)
  have HB2 := Lib.hid (HB1.out.trans (kb2.mono HB1.out.size))
  clear k2 kb2 HC2 HK1 HB1
  have HZ1 := Lib.hid (HZ.out ta1 va1 tc1 vc1 w2 HT2.out)
  go_wp2_with fail
  try go_at_call 9
  refine HZ1.out.mono ?_
  rintro e w3 ⟨gt, gc, gv, gd, rfl, k3, kb3⟩
  have HG := Lib.hid k3
  have HT3 := Lib.hid (HT2.out.below kb3)
  have HB3 := Lib.hid (HB2.out.trans (kb3.mono HB2.out.size))
  clear k3 kb3 HT2 HB2 HZ1 HZ
  have HS0 := Lib.hid (show Two w3.heap.size (.slice (some ⟨w3.heap.size, 0, none⟩) 0 0) (.slice (some ⟨w3.heap.size + 1, 0, none⟩) 0 0) (tv []) (vv []) w3 ((w3.alloc (.cells #[] 5)).alloc (.cells #[] 3)) from by
    have h1 : OwnG 5 w3.heap.size (.slice (some ⟨w3.heap.size, 0, none⟩) 0 0) [] ((w3.alloc (.cells #[] 5)).alloc (.cells #[] 3)) := World.ownsRow.alloc (World.ownsRow_lit w3 #[] 0 (Nat.le_refl _) (by decide) rfl) _
    have h2 : OwnG 3 w3.heap.size (.slice (some ⟨w3.heap.size + 1, 0, none⟩) 0 0) [] ((w3.alloc (.cells #[] 5)).alloc (.cells #[] 3)) := by
      have h := World.ownsRow_lit (base := w3.heap.size) (size := 1) (e := 3) (w3.alloc (.cells #[] 5)) #[] 0 (by simp) (by decide) rfl
      simpa [OwnG] using h
    exact ⟨h1, h2, ((Below.refl _ _).alloc (Nat.le_refl _) _).alloc (by simp) _, Nat.le_refl _⟩)
  go_wp2
  go_loopw [13, 14, 15, 16] (fun wt wv lv ix wr => ∃ (k l : Nat) (E : List (Nat × Int)), k ≤ n ∧ l ≤ k ∧ ix = .int .i64 (k : Int) ∧ lv = .int .i64 (l : Int) ∧ Hid (Lev P L E k l) ∧ Hid (Two w3.heap.size wt wv (tv E) (vv E) w3 wr)) (fun _ _ _ ix _ => n - (intOf ix).toNat)
  case atStart => exact ⟨0, 0, [], Nat.zero_le _, Nat.le_refl _, rfl, rfl, Lib.hid (lev_start _ L HWf.out), HS0⟩
  case round =>
    obtain ⟨k, l, E, hk, hlk, rfl, rfl, HP, HO⟩ := hrel
    clear HS0
    have HLe := Lib.hid (show (tv E).length + 1 ≤ 4294967296 ∧ (vv E).length + 1 ≤ 4294967296 from by
      have h1 := HP.out.2.2
      simp only [tv, vv, List.length_map]
      omega)
    by_cases hlt : k < n
    · have hkL : k < L.length := by rw [HN.out]; exact hlt
      obtain ⟨g, hta, hc⟩ := (HT3.out.below HO.out.2.2.1).tag k hkL
      by_cases e1 : (L[k]'hkL).1 = 1
      · have hS := lev_open HP.out hkL e1
        rw [e1] at hc
        clear e1 hkL HP
        subst hta
        rw [HPf.out l, if_neg (by decide), List.append_nil] at hS
        have HS := Lib.hid hS
        clear hS
        go_wp2
        go_roundw
        case rel => exact ⟨k + 1, l + 1, E, by omega, by omega, by go_num, by go_num, HS, HO⟩
        case measure => simp [intOf]; omega
      · by_cases e2 : (L[k]'hkL).1 = 2
        · obtain ⟨hl0, hS⟩ := lev_close HP.out hkL e2
          rw [e2] at hc
          clear e1 e2 hkL HP
          subst hta
          obtain ⟨l, rfl⟩ : ∃ l', l = l' + 1 := ⟨l - 1, by omega⟩
          rw [Nat.add_sub_cancel] at hS
          rw [HPf.out l, if_neg (by decide), List.append_nil] at hS
          have HS := Lib.hid hS
          clear hS
          go_wp2
          go_roundw
          case rel => exact ⟨k + 1, l, E, by omega, by omega, by go_num, by go_num, HS, HO⟩
          case measure => simp [intOf]; omega
        · obtain ⟨v, hv⟩ : ∃ v, v = (L[k]'hkL).2 := ⟨_, rfl⟩
          have HS := Lib.hid (lev_leaf HP.out hkL e1 e2)
          rw [← hv] at HS
          have HV := Lib.hid (show ∀ W, Below w3.heap.size w3 W → ∃ g3, va1 = some ⟨g3, 0, none⟩ ∧ W.cell? ⟨g3, k, none⟩ = some (.int .i64 v) from fun W hW => by
            obtain ⟨g3, h3, h4⟩ := (HT3.out.below hW).val k hkL
            rw [← hv] at h4
            exact ⟨g3, h3, h4⟩)
          have t1 : (((L[k]'hkL).1 : Int) == 1) = false := by rw [beq_eq_false_iff_ne]; omega
          have t2 : (((L[k]'hkL).1 : Int) == 2) = false := by rw [beq_eq_false_iff_ne]; omega
          clear e1 e2 HP hv
          generalize (L[k]'hkL).1 = t at hc t1 t2
          clear hkL
          subst hta
          go_wp2_with (at_builtin; refine app_gen 22 5 (.int .u8 0) 1 Tryz.underlying22 info_u8 rfl (by_1) rfl _ _ rfl w3.heap.size _ _ (tv E) (.int .u8 0) _ _ _ rfl ?cb1 rfl rfl rfl ?co1 ?cB1 ?cl1 ?_)
          case cb1 => first | rfl | simp
          case co1 => exact HO.out.1
          case cB1 => exact two_B HO.out
          case cl1 => exact HLe.out.1
          intro a1 x1 ho hb hg
          have HO1 := Lib.hid (show Two w3.heap.size a1 _ (tv E ++ [.int .u8 0]) (vv E) w3 x1 from two_t HO.out (by first | exact ho | simpa using ho) hb hg)
          clear ho hb hg
          obtain ⟨g3, hva3, hc4⟩ := HV.out _ HO1.out.2.2.1
          subst hva3
          clear HV hc
          go_wp2_with (at_builtin; refine app_gen 23 3 (.int .i64 0) 8 Tryz.underlying23 info_int rfl (by_8) rfl _ _ rfl w3.heap.size _ _ (vv E) (.int .i64 v) _ _ _ rfl ?cb2 rfl rfl rfl ?co2 ?cB2 ?cl2 ?_)
          case cb2 => first | rfl | simp
          case co2 => exact HO1.out.2.1
          case cB2 => exact two_B HO1.out
          case cl2 => exact HLe.out.2
          intro a2 x2 ho hb hg
          have HO2 := Lib.hid (show Two w3.heap.size _ a2 (tv E ++ [.int .u8 0]) (vv E ++ [.int .i64 v]) w3 x2 from two_v HO1.out (by first | exact ho | simpa using ho) hb hg)
          clear ho hb hg
          have HX := Lib.hid (show Two w3.heap.size _ _ (tv (E ++ [(0, v)])) (vv (E ++ [(0, v)])) w3 x2 from by have h := HO2.out; simpa [tv, vv] using h)
          go_wp2
          go_roundw
          case rel => exact ⟨k + 1, l, E ++ [(0, v)], by omega, by omega, by go_num, by go_num, HS, HX⟩
          case measure => simp [intOf]; omega
    · obtain rfl : k = n := by omega
      have hE := lev_end (show Lev P L E L.length l from by rw [HN.out]; exact HP.out)
      have hE2 : E = (f.flat o).enc := hE.trans HE.out
      subst hE2
      clear hE HP HLe
      obtain ⟨b1, c1, hb1⟩ := ownG_slice HO.out.1
      obtain ⟨b2, c2, hb2⟩ := ownG_slice HO.out.2.1
      subst hb1
      subst hb2
      have HE1 := Lib.hid (eqB (· < w3.heap.size) (fun _ => True) ((f.flat o).enc.map fun t => (t.1 : Int)) gt b1 gc c1 _ (by rw [List.length_map]; exact HZl.out) (by rw [List.map_map]; exact (HG.out.1.keep (fun g hg => HO.out.2.2.1.block g hg))) (by rw [List.map_map]; exact ownG_arr HO.out.1 (fun _ _ _ => trivial)))
      have HE2 := Lib.hid (fun nq => eqI (· < w3.heap.size) (fun _ => True) ((f.flat o).enc.map fun t => t.2) gv b2 gd c2 _ (by rw [List.length_map]; exact HZl.out) (by rw [List.map_map]; exact (show ArrIn (· < w3.heap.size) (World.drewN _ nq) gv _ from (HG.out.2.keep (fun g hg => HO.out.2.2.1.block g hg)))) (by rw [List.map_map]; exact (show ArrIn (fun _ => True) (World.drewN _ nq) b2 _ from ownG_arr HO.out.2.1 (fun _ _ _ => trivial))))
      have HB := Lib.hid (HB3.out.trans (HO.out.2.2.1.mono HB3.out.size))
      simp only [List.length_map] at HE1 HE2
      simp only [tv, vv, List.length_map]
      clear HO
      generalize (f.flat o).enc.length = m at HE1 HE2 ⊢
      go_wp2_with fail
      try go_at_call 10
      refine HE1.out.mono ?_
      rintro e w6 ⟨rfl, n6, rfl⟩
      go_wp2_with fail
      try go_at_call 11
      refine (HE2.out n6).mono ?_
      rintro e w7 ⟨rfl, n7, rfl⟩
      go_wp2
      go_ret
      exact ⟨rfl, HB.out.trans ⟨rfl, rfl, rfl, Nat.le_refl _, fun _ _ => rfl⟩⟩
set_option maxRecDepth 100000 in
set_option maxHeartbeats 6400000 in
theorem core_frac (ta va : Option Addr) (tc vc : Nat) (L : List (Nat × Int)) (f : Fo) (hf : L.map norm = f.enc) (hwf : wf L 0 = true) (d : Nat) (o : Option Nat) (P : Nat → Bool) (w : World) (hs1 : ArgIn .u8 w ta tc (L.map fun t => (t.1 : Int))) (hs2 : ArgIn .i64 w va vc (L.map fun t => t.2)) (hsz : 9 * L.length ≤ 1048576)
    (hz : ∀ ta va c1 c2 W, Toks W ta va L → Calls Tryz.prog 9 #[.slice ta L.length c1, .slice va L.length c2, .bool true, .float .f64 d] W (ZZPost (f.flat o) W))
    (hp : (FloatKind.f64.format.order d d != some .eq) = false) (hp2 : (FloatKind.f64.format.order d 0 == some .lt) = false) (hi : ∀ W, Calls Tryz.prog 13 #[.float .f64 d] W (Ret (.bool false) W))
    (hPf : ∀ l, P l = false)
    (hE : em P L 0 = (f.flat o).enc) :
    Calls Tryz.prog 4 #[.slice ta L.length tc, .slice va L.length vc, .bool true, .float .f64 d] w (LawPost w) := by
  have HY := Lib.hid (bytesFL_yes ta va L.length L.length tc vc true d (by omega))
  have HW := Lib.hid (wf_any ta tc _ w (by rw [List.length_map]; omega) hs1)
  rw [wfT_wf, hwf] at HW
  have HWf := Lib.hid hwf
  have HC1 := Lib.hid (fun W hW => cloneB ta tc _ W (by rw [List.length_map]; omega) (hs1.below hW))
  have HC2 := Lib.hid (fun W hW => cloneI va vc _ W (by rw [List.length_map]; omega) (hs2.below hW))
  have HZ := Lib.hid hz
  have HE := Lib.hid hE
  have HZl := Lib.hid (show (f.flat o).enc.length ≤ 1048576 from by
    have h1 := Fo.flat_size f o
    have h2 : f.size = L.length := by rw [← Fo.enc_len, ← hf, List.length_map]
    rw [Fo.enc_len]
    omega)
  simp only [List.length_map] at HC1 HC2 HW
  have HI := Lib.hid hi
  clear hi
  have HPf := Lib.hid hPf
  clear hPf
  clear hs1 hs2 hz hE hf hwf
  obtain ⟨n, hn⟩ : ∃ n, L.length = n := ⟨_, rfl⟩
  have HN := Lib.hid hn
  rw [hn] at HY HC1 HC2 HW HZ hsz ⊢
  clear hn
  go_enter Tryz.func4, Tryz.ntmps4
  go_wp2_with (go_at_call 12; refine (HY.out _).mono ?_; rintro e w' ⟨rfl, rfl⟩)
  try go_at_call 6
  refine HW.out.mono ?_
  rintro e w' ⟨rfl, nq, rfl⟩
  go_wp2_with fail
  try go_at_call 7
  refine (HC1.out _ (below_drewN nq)).mono ?_
  rintro e w1 ⟨ta1, tc1, rfl, k1, kb1⟩
  have HK1 := Lib.hid k1
  have HB1 := Lib.hid (show Below w.heap.size w w1 from (below_drewN nq).trans kb1)
  clear k1 kb1 HC1 HW
  go_wp2_with fail
  try go_at_call 8
  refine (HC2.out _ HB1.out).mono ?_
  rintro e w2 ⟨va1, vc1, rfl, k2, kb2⟩
  have HT2 := Lib.hid (toks_of HK1.out kb2 k2)
  have HB2 := Lib.hid (HB1.out.trans (kb2.mono HB1.out.size))
  clear k2 kb2 HC2 HK1 HB1
  have HZ1 := Lib.hid (HZ.out ta1 va1 tc1 vc1 w2 HT2.out)
  go_wp2_with fail
  try go_at_call 9
  refine HZ1.out.mono ?_
  rintro e w3 ⟨gt, gc, gv, gd, rfl, k3, kb3⟩
  have HG := Lib.hid k3
  have HT3 := Lib.hid (HT2.out.below kb3)
  have HB3 := Lib.hid (HB2.out.trans (kb3.mono HB2.out.size))
  clear k3 kb3 HT2 HB2 HZ1 HZ
  have HS0 := Lib.hid (show Two w3.heap.size (.slice (some ⟨w3.heap.size, 0, none⟩) 0 0) (.slice (some ⟨w3.heap.size + 1, 0, none⟩) 0 0) (tv []) (vv []) w3 ((w3.alloc (.cells #[] 5)).alloc (.cells #[] 3)) from by
    have h1 : OwnG 5 w3.heap.size (.slice (some ⟨w3.heap.size, 0, none⟩) 0 0) [] ((w3.alloc (.cells #[] 5)).alloc (.cells #[] 3)) := World.ownsRow.alloc (World.ownsRow_lit w3 #[] 0 (Nat.le_refl _) (by decide) rfl) _
    have h2 : OwnG 3 w3.heap.size (.slice (some ⟨w3.heap.size + 1, 0, none⟩) 0 0) [] ((w3.alloc (.cells #[] 5)).alloc (.cells #[] 3)) := by
      have h := World.ownsRow_lit (base := w3.heap.size) (size := 1) (e := 3) (w3.alloc (.cells #[] 5)) #[] 0 (by simp) (by decide) rfl
      simpa [OwnG] using h
    exact ⟨h1, h2, ((Below.refl _ _).alloc (Nat.le_refl _) _).alloc (by simp) _, Nat.le_refl _⟩)
  go_wp2_with (go_at_call 13; refine (HI.out _).mono ?_; rintro e w' ⟨rfl, rfl⟩)
  go_loopw [13, 14, 15, 16] (fun wt wv lv ix wr => ∃ (k l : Nat) (E : List (Nat × Int)), k ≤ n ∧ l ≤ k ∧ ix = .int .i64 (k : Int) ∧ lv = .int .i64 (l : Int) ∧ Hid (Lev P L E k l) ∧ Hid (Two w3.heap.size wt wv (tv E) (vv E) w3 wr)) (fun _ _ _ ix _ => n - (intOf ix).toNat)
  case atStart => exact ⟨0, 0, [], Nat.zero_le _, Nat.le_refl _, rfl, rfl, Lib.hid (lev_start _ L HWf.out), HS0⟩
  case round =>
    obtain ⟨k, l, E, hk, hlk, rfl, rfl, HP, HO⟩ := hrel
    clear HS0
    have HLe := Lib.hid (show (tv E).length + 1 ≤ 4294967296 ∧ (vv E).length + 1 ≤ 4294967296 from by
      have h1 := HP.out.2.2
      simp only [tv, vv, List.length_map]
      omega)
    by_cases hlt : k < n
    · have hkL : k < L.length := by rw [HN.out]; exact hlt
      obtain ⟨g, hta, hc⟩ := (HT3.out.below HO.out.2.2.1).tag k hkL
      by_cases e1 : (L[k]'hkL).1 = 1
      · have hS := lev_open HP.out hkL e1
        rw [e1] at hc
        clear e1 hkL HP
        subst hta
        rw [HPf.out l, if_neg (by decide), List.append_nil] at hS
        have HS := Lib.hid hS
        clear hS
        go_wp2
        go_roundw
        case rel => exact ⟨k + 1, l + 1, E, by omega, by omega, by go_num, by go_num, HS, HO⟩
        case measure => simp [intOf]; omega
      · by_cases e2 : (L[k]'hkL).1 = 2
        · obtain ⟨hl0, hS⟩ := lev_close HP.out hkL e2
          rw [e2] at hc
          clear e1 e2 hkL HP
          subst hta
          obtain ⟨l, rfl⟩ : ∃ l', l = l' + 1 := ⟨l - 1, by omega⟩
          rw [Nat.add_sub_cancel] at hS
          rw [HPf.out l, if_neg (by decide), List.append_nil] at hS
          have HS := Lib.hid hS
          clear hS
          go_wp2
          go_roundw
          case rel => exact ⟨k + 1, l, E, by omega, by omega, by go_num, by go_num, HS, HO⟩
          case measure => simp [intOf]; omega
        · obtain ⟨v, hv⟩ : ∃ v, v = (L[k]'hkL).2 := ⟨_, rfl⟩
          have HS := Lib.hid (lev_leaf HP.out hkL e1 e2)
          rw [← hv] at HS
          have HV := Lib.hid (show ∀ W, Below w3.heap.size w3 W → ∃ g3, va1 = some ⟨g3, 0, none⟩ ∧ W.cell? ⟨g3, k, none⟩ = some (.int .i64 v) from fun W hW => by
            obtain ⟨g3, h3, h4⟩ := (HT3.out.below hW).val k hkL
            rw [← hv] at h4
            exact ⟨g3, h3, h4⟩)
          have t1 : (((L[k]'hkL).1 : Int) == 1) = false := by rw [beq_eq_false_iff_ne]; omega
          have t2 : (((L[k]'hkL).1 : Int) == 2) = false := by rw [beq_eq_false_iff_ne]; omega
          clear e1 e2 HP hv
          generalize (L[k]'hkL).1 = t at hc t1 t2
          clear hkL
          subst hta
          go_wp2_with (at_builtin; refine app_gen 22 5 (.int .u8 0) 1 Tryz.underlying22 info_u8 rfl (by_1) rfl _ _ rfl w3.heap.size _ _ (tv E) (.int .u8 0) _ _ _ rfl ?cb3 rfl rfl rfl ?co3 ?cB3 ?cl3 ?_)
          case cb3 => first | rfl | simp
          case co3 => exact HO.out.1
          case cB3 => exact two_B HO.out
          case cl3 => exact HLe.out.1
          intro a3 x3 ho hb hg
          have HO1 := Lib.hid (show Two w3.heap.size a3 _ (tv E ++ [.int .u8 0]) (vv E) w3 x3 from two_t HO.out (by first | exact ho | simpa using ho) hb hg)
          clear ho hb hg
          obtain ⟨g3, hva3, hc4⟩ := HV.out _ HO1.out.2.2.1
          subst hva3
          clear HV hc
          go_wp2_with (at_builtin; refine app_gen 23 3 (.int .i64 0) 8 Tryz.underlying23 info_int rfl (by_8) rfl _ _ rfl w3.heap.size _ _ (vv E) (.int .i64 v) _ _ _ rfl ?cb4 rfl rfl rfl ?co4 ?cB4 ?cl4 ?_)
          case cb4 => first | rfl | simp
          case co4 => exact HO1.out.2.1
          case cB4 => exact two_B HO1.out
          case cl4 => exact HLe.out.2
          intro a4 x4 ho hb hg
          have HO2 := Lib.hid (show Two w3.heap.size _ a4 (tv E ++ [.int .u8 0]) (vv E ++ [.int .i64 v]) w3 x4 from two_v HO1.out (by first | exact ho | simpa using ho) hb hg)
          clear ho hb hg
          have HX := Lib.hid (show Two w3.heap.size _ _ (tv (E ++ [(0, v)])) (vv (E ++ [(0, v)])) w3 x4 from by have h := HO2.out; simpa [tv, vv] using h)
          go_wp2
          go_roundw
          case rel => exact ⟨k + 1, l, E ++ [(0, v)], by omega, by omega, by go_num, by go_num, HS, HX⟩
          case measure => simp [intOf]; omega
    · obtain rfl : k = n := by omega
      have hE := lev_end (show Lev P L E L.length l from by rw [HN.out]; exact HP.out)
      have hE2 : E = (f.flat o).enc := hE.trans HE.out
      subst hE2
      clear hE HP HLe
      obtain ⟨b1, c1, hb1⟩ := ownG_slice HO.out.1
      obtain ⟨b2, c2, hb2⟩ := ownG_slice HO.out.2.1
      subst hb1
      subst hb2
      have HE1 := Lib.hid (eqB (· < w3.heap.size) (fun _ => True) ((f.flat o).enc.map fun t => (t.1 : Int)) gt b1 gc c1 _ (by rw [List.length_map]; exact HZl.out) (by rw [List.map_map]; exact (HG.out.1.keep (fun g hg => HO.out.2.2.1.block g hg))) (by rw [List.map_map]; exact ownG_arr HO.out.1 (fun _ _ _ => trivial)))
      have HE2 := Lib.hid (fun nq => eqI (· < w3.heap.size) (fun _ => True) ((f.flat o).enc.map fun t => t.2) gv b2 gd c2 _ (by rw [List.length_map]; exact HZl.out) (by rw [List.map_map]; exact (show ArrIn (· < w3.heap.size) (World.drewN _ nq) gv _ from (HG.out.2.keep (fun g hg => HO.out.2.2.1.block g hg)))) (by rw [List.map_map]; exact (show ArrIn (fun _ => True) (World.drewN _ nq) b2 _ from ownG_arr HO.out.2.1 (fun _ _ _ => trivial))))
      have HB := Lib.hid (HB3.out.trans (HO.out.2.2.1.mono HB3.out.size))
      simp only [List.length_map] at HE1 HE2
      simp only [tv, vv, List.length_map]
      clear HO
      generalize (f.flat o).enc.length = m at HE1 HE2 ⊢
      go_wp2_with fail
      try go_at_call 10
      refine HE1.out.mono ?_
      rintro e w6 ⟨rfl, n6, rfl⟩
      go_wp2_with fail
      try go_at_call 11
      refine (HE2.out n6).mono ?_
      rintro e w7 ⟨rfl, n7, rfl⟩
      go_wp2
      go_ret
      exact ⟨rfl, HB.out.trans ⟨rfl, rfl, rfl, Nat.le_refl _, fun _ _ => rfl⟩⟩
set_option maxRecDepth 100000 in
set_option maxHeartbeats 6400000 in
theorem core_int (ta va : Option Addr) (tc vc : Nat) (L : List (Nat × Int)) (f : Fo) (hf : L.map norm = f.enc) (hwf : wf L 0 = true) (d : Nat) (o : Option Nat) (P : Nat → Bool) (w : World) (hs1 : ArgIn .u8 w ta tc (L.map fun t => (t.1 : Int))) (hs2 : ArgIn .i64 w va vc (L.map fun t => t.2)) (hsz : 9 * L.length ≤ 1048576)
    (hz : ∀ ta va c1 c2 W, Toks W ta va L → Calls Tryz.prog 9 #[.slice ta L.length c1, .slice va L.length c2, .bool true, .float .f64 d] W (ZZPost (f.flat o) W))
    (hp : (FloatKind.f64.format.order d d != some .eq) = false) (hp2 : (FloatKind.f64.format.order d 0 == some .lt) = false) (hi : ∀ W, Calls Tryz.prog 13 #[.float .f64 d] W (Ret (.bool true) W))
    (hQ : ∀ l : Nat, l ≤ 2097152 → geF (floatOfInt .f64 (l : Int)) d = P l)
    (hE : em P L 0 = (f.flat o).enc) :
    Calls Tryz.prog 4 #[.slice ta L.length tc, .slice va L.length vc, .bool true, .float .f64 d] w (LawPost w) := by
  have HY := Lib.hid (bytesFL_yes ta va L.length L.length tc vc true d (by omega))
  have HW := Lib.hid (wf_any ta tc _ w (by rw [List.length_map]; omega) hs1)
  rw [wfT_wf, hwf] at HW
  have HWf := Lib.hid hwf
  have HC1 := Lib.hid (fun W hW => cloneB ta tc _ W (by rw [List.length_map]; omega) (hs1.below hW))
  have HC2 := Lib.hid (fun W hW => cloneI va vc _ W (by rw [List.length_map]; omega) (hs2.below hW))
  have HZ := Lib.hid hz
  have HE := Lib.hid hE
  have HZl := Lib.hid (show (f.flat o).enc.length ≤ 1048576 from by
    have h1 := Fo.flat_size f o
    have h2 : f.size = L.length := by rw [← Fo.enc_len, ← hf, List.length_map]
    rw [Fo.enc_len]
    omega)
  simp only [List.length_map] at HC1 HC2 HW
  have HI := Lib.hid hi
  clear hi
  have HQ := Lib.hid hQ
  clear hQ
  clear hs1 hs2 hz hE hf hwf
  obtain ⟨n, hn⟩ : ∃ n, L.length = n := ⟨_, rfl⟩
  have HN := Lib.hid hn
  rw [hn] at HY HC1 HC2 HW HZ hsz ⊢
  clear hn
  go_enter Tryz.func4, Tryz.ntmps4
  go_wp2_with (go_at_call 12; refine (HY.out _).mono ?_; rintro e w' ⟨rfl, rfl⟩)
  try go_at_call 6
  refine HW.out.mono ?_
  rintro e w' ⟨rfl, nq, rfl⟩
  go_wp2_with fail
  try go_at_call 7
  refine (HC1.out _ (below_drewN nq)).mono ?_
  rintro e w1 ⟨ta1, tc1, rfl, k1, kb1⟩
  have HK1 := Lib.hid k1
  have HB1 := Lib.hid (show Below w.heap.size w w1 from (below_drewN nq).trans kb1)
  clear k1 kb1 HC1 HW
  go_wp2_with fail
  try go_at_call 8
  refine (HC2.out _ HB1.out).mono ?_
  rintro e w2 ⟨va1, vc1, rfl, k2, kb2⟩
  have HT2 := Lib.hid (toks_of HK1.out kb2 k2)
  have HB2 := Lib.hid (HB1.out.trans (kb2.mono HB1.out.size))
  clear k2 kb2 HC2 HK1 HB1
  have HZ1 := Lib.hid (HZ.out ta1 va1 tc1 vc1 w2 HT2.out)
  go_wp2_with fail
  try go_at_call 9
  refine HZ1.out.mono ?_
  rintro e w3 ⟨gt, gc, gv, gd, rfl, k3, kb3⟩
  have HG := Lib.hid k3
  have HT3 := Lib.hid (HT2.out.below kb3)
  have HB3 := Lib.hid (HB2.out.trans (kb3.mono HB2.out.size))
  clear k3 kb3 HT2 HB2 HZ1 HZ
  have HS0 := Lib.hid (show Two w3.heap.size (.slice (some ⟨w3.heap.size, 0, none⟩) 0 0) (.slice (some ⟨w3.heap.size + 1, 0, none⟩) 0 0) (tv []) (vv []) w3 ((w3.alloc (.cells #[] 5)).alloc (.cells #[] 3)) from by
    have h1 : OwnG 5 w3.heap.size (.slice (some ⟨w3.heap.size, 0, none⟩) 0 0) [] ((w3.alloc (.cells #[] 5)).alloc (.cells #[] 3)) := World.ownsRow.alloc (World.ownsRow_lit w3 #[] 0 (Nat.le_refl _) (by decide) rfl) _
    have h2 : OwnG 3 w3.heap.size (.slice (some ⟨w3.heap.size + 1, 0, none⟩) 0 0) [] ((w3.alloc (.cells #[] 5)).alloc (.cells #[] 3)) := by
      have h := World.ownsRow_lit (base := w3.heap.size) (size := 1) (e := 3) (w3.alloc (.cells #[] 5)) #[] 0 (by simp) (by decide) rfl
      simpa [OwnG] using h
    exact ⟨h1, h2, ((Below.refl _ _).alloc (Nat.le_refl _) _).alloc (by simp) _, Nat.le_refl _⟩)
  go_wp2_with (go_at_call 13; refine (HI.out _).mono ?_; rintro e w' ⟨rfl, rfl⟩)
  go_loopw [13, 14, 15, 16] (fun wt wv lv ix wr => ∃ (k l : Nat) (E : List (Nat × Int)), k ≤ n ∧ l ≤ k ∧ ix = .int .i64 (k : Int) ∧ lv = .int .i64 (l : Int) ∧ Hid (Lev P L E k l) ∧ Hid (Two w3.heap.size wt wv (tv E) (vv E) w3 wr)) (fun _ _ _ ix _ => n - (intOf ix).toNat)
  case atStart => exact ⟨0, 0, [], Nat.zero_le _, Nat.le_refl _, rfl, rfl, Lib.hid (lev_start _ L HWf.out), HS0⟩
  case round =>
    obtain ⟨k, l, E, hk, hlk, rfl, rfl, HP, HO⟩ := hrel
    clear HS0
    have HLe := Lib.hid (show (tv E).length + 1 ≤ 4294967296 ∧ (vv E).length + 1 ≤ 4294967296 from by
      have h1 := HP.out.2.2
      simp only [tv, vv, List.length_map]
      omega)
    by_cases hlt : k < n
    · have hkL : k < L.length := by rw [HN.out]; exact hlt
      obtain ⟨g, hta, hc⟩ := (HT3.out.below HO.out.2.2.1).tag k hkL
      by_cases e1 : (L[k]'hkL).1 = 1
      · have hS := lev_open HP.out hkL e1
        rw [e1] at hc
        clear e1 hkL HP
        subst hta
        have hg1 := HQ.out l (by omega)
        unfold geF at hg1
        cases hpl : P l with
        | false =>
          rw [hpl] at hg1
          rw [hpl, if_neg (by decide), List.append_nil] at hS
          have HS := Lib.hid hS
          clear hS hpl
          go_wp2
          go_roundw
          case rel => exact ⟨k + 1, l + 1, E, by omega, by omega, by go_num, by go_num, HS, HO⟩
          case measure => simp [intOf]; omega
        | true =>
          rw [hpl] at hg1
          rw [hpl, if_pos rfl] at hS
          have HS := Lib.hid hS
          clear hS hpl
          go_wp2_with (at_builtin; refine app_gen 22 5 (.int .u8 0) 1 Tryz.underlying22 info_u8 rfl (by_1) rfl _ _ rfl w3.heap.size _ _ (tv E) (.int .u8 1) _ _ _ rfl ?cb5 rfl rfl rfl ?co5 ?cB5 ?cl5 ?_)
          case cb5 => first | rfl | simp
          case co5 => exact HO.out.1
          case cB5 => exact two_B HO.out
          case cl5 => exact HLe.out.1
          intro a5 x5 ho hb hg
          have HO1 := Lib.hid (show Two w3.heap.size a5 _ (tv E ++ [.int .u8 1]) (vv E) w3 x5 from two_t HO.out (by first | exact ho | simpa using ho) hb hg)
          clear ho hb hg
          go_wp2_with (at_builtin; refine app_gen 23 3 (.int .i64 0) 8 Tryz.underlying23 info_int rfl (by_8) rfl _ _ rfl w3.heap.size _ _ (vv E) (.int .i64 0) _ _ _ rfl ?cb6 rfl rfl rfl ?co6 ?cB6 ?cl6 ?_)
          case cb6 => first | rfl | simp
          case co6 => exact HO1.out.2.1
          case cB6 => exact two_B HO1.out
          case cl6 => exact HLe.out.2
          intro a6 x6 ho hb hg
          have HO2 := Lib.hid (show Two w3.heap.size _ a6 (tv E ++ [.int .u8 1]) (vv E ++ [.int .i64 0]) w3 x6 from two_v HO1.out (by first | exact ho | simpa using ho) hb hg)
          clear ho hb hg
          have HX := Lib.hid (show Two w3.heap.size _ _ (tv (E ++ [(1, 0)])) (vv (E ++ [(1, 0)])) w3 x6 from by have h := HO2.out; simpa [tv, vv] using h)
          go_wp2
          go_roundw
          case rel => exact ⟨k + 1, l + 1, E ++ [(1, 0)], by omega, by omega, by go_num, by go_num, HS, HX⟩
          case measure => simp [intOf]; omega
      · by_cases e2 : (L[k]'hkL).1 = 2
        · obtain ⟨hl0, hS⟩ := lev_close HP.out hkL e2
          rw [e2] at hc
          clear e1 e2 hkL HP
          subst hta
          obtain ⟨l, rfl⟩ : ∃ l', l = l' + 1 := ⟨l - 1, by omega⟩
          rw [Nat.add_sub_cancel] at hS
          have hg1 := HQ.out l (by omega)
          unfold geF at hg1
          cases hpl : P l with
          | false =>
            rw [hpl] at hg1
            rw [hpl, if_neg (by decide), List.append_nil] at hS
            have HS := Lib.hid hS
            clear hS hpl
            go_wp2
            go_roundw
            case rel => exact ⟨k + 1, l, E, by omega, by omega, by go_num, by go_num, HS, HO⟩
            case measure => simp [intOf]; omega
          | true =>
            rw [hpl] at hg1
            rw [hpl, if_pos rfl] at hS
            have HS := Lib.hid hS
            clear hS hpl
            go_wp2_with (at_builtin; refine app_gen 22 5 (.int .u8 0) 1 Tryz.underlying22 info_u8 rfl (by_1) rfl _ _ rfl w3.heap.size _ _ (tv E) (.int .u8 2) _ _ _ rfl ?cb7 rfl rfl rfl ?co7 ?cB7 ?cl7 ?_)
            case cb7 => first | rfl | simp
            case co7 => exact HO.out.1
            case cB7 => exact two_B HO.out
            case cl7 => exact HLe.out.1
            intro a7 x7 ho hb hg
            have HO1 := Lib.hid (show Two w3.heap.size a7 _ (tv E ++ [.int .u8 2]) (vv E) w3 x7 from two_t HO.out (by first | exact ho | simpa using ho) hb hg)
            clear ho hb hg
            go_wp2_with (at_builtin; refine app_gen 23 3 (.int .i64 0) 8 Tryz.underlying23 info_int rfl (by_8) rfl _ _ rfl w3.heap.size _ _ (vv E) (.int .i64 0) _ _ _ rfl ?cb8 rfl rfl rfl ?co8 ?cB8 ?cl8 ?_)
            case cb8 => first | rfl | simp
            case co8 => exact HO1.out.2.1
            case cB8 => exact two_B HO1.out
            case cl8 => exact HLe.out.2
            intro a8 x8 ho hb hg
            have HO2 := Lib.hid (show Two w3.heap.size _ a8 (tv E ++ [.int .u8 2]) (vv E ++ [.int .i64 0]) w3 x8 from two_v HO1.out (by first | exact ho | simpa using ho) hb hg)
            clear ho hb hg
            have HX := Lib.hid (show Two w3.heap.size _ _ (tv (E ++ [(2, 0)])) (vv (E ++ [(2, 0)])) w3 x8 from by have h := HO2.out; simpa [tv, vv] using h)
            go_wp2
            go_roundw
            case rel => exact ⟨k + 1, l, E ++ [(2, 0)], by omega, by omega, by go_num, by go_num, HS, HX⟩
            case measure => simp [intOf]; omega
        · obtain ⟨v, hv⟩ : ∃ v, v = (L[k]'hkL).2 := ⟨_, rfl⟩
          have HS := Lib.hid (lev_leaf HP.out hkL e1 e2)
          rw [← hv] at HS
          have HV := Lib.hid (show ∀ W, Below w3.heap.size w3 W → ∃ g3, va1 = some ⟨g3, 0, none⟩ ∧ W.cell? ⟨g3, k, none⟩ = some (.int .i64 v) from fun W hW => by
            obtain ⟨g3, h3, h4⟩ := (HT3.out.below hW).val k hkL
            rw [← hv] at h4
            exact ⟨g3, h3, h4⟩)
          have t1 : (((L[k]'hkL).1 : Int) == 1) = false := by rw [beq_eq_false_iff_ne]; omega
          have t2 : (((L[k]'hkL).1 : Int) == 2) = false := by rw [beq_eq_false_iff_ne]; omega
          clear e1 e2 HP hv
          generalize (L[k]'hkL).1 = t at hc t1 t2
          clear hkL
          subst hta
          go_wp2_with (at_builtin; refine app_gen 22 5 (.int .u8 0) 1 Tryz.underlying22 info_u8 rfl (by_1) rfl _ _ rfl w3.heap.size _ _ (tv E) (.int .u8 0) _ _ _ rfl ?cb9 rfl rfl rfl ?co9 ?cB9 ?cl9 ?_)
          case cb9 => first | rfl | simp
          case co9 => exact HO.out.1
          case cB9 => exact two_B HO.out
          case cl9 => exact HLe.out.1
          intro a9 x9 ho hb hg
          have HO1 := Lib.hid (show Two w3.heap.size a9 _ (tv E ++ [.int .u8 0]) (vv E) w3 x9 from two_t HO.out (by first | exact ho | simpa using ho) hb hg)
          clear ho hb hg
          obtain ⟨g3, hva3, hc4⟩ := HV.out _ HO1.out.2.2.1
          subst hva3
          clear HV hc
          go_wp2_with (at_builtin; refine app_gen 23 3 (.int .i64 0) 8 Tryz.underlying23 info_int rfl (by_8) rfl _ _ rfl w3.heap.size _ _ (vv E) (.int .i64 v) _ _ _ rfl ?cb10 rfl rfl rfl ?co10 ?cB10 ?cl10 ?_)
          case cb10 => first | rfl | simp
          case co10 => exact HO1.out.2.1
          case cB10 => exact two_B HO1.out
          case cl10 => exact HLe.out.2
          intro a10 x10 ho hb hg
          have HO2 := Lib.hid (show Two w3.heap.size _ a10 (tv E ++ [.int .u8 0]) (vv E ++ [.int .i64 v]) w3 x10 from two_v HO1.out (by first | exact ho | simpa using ho) hb hg)
          clear ho hb hg
          have HX := Lib.hid (show Two w3.heap.size _ _ (tv (E ++ [(0, v)])) (vv (E ++ [(0, v)])) w3 x10 from by have h := HO2.out; simpa [tv, vv] using h)
          go_wp2
          go_roundw
          case rel => exact ⟨k + 1, l, E ++ [(0, v)], by omega, by omega, by go_num, by go_num, HS, HX⟩
          case measure => simp [intOf]; omega
    · obtain rfl : k = n := by omega
      have hE := lev_end (show Lev P L E L.length l from by rw [HN.out]; exact HP.out)
      have hE2 : E = (f.flat o).enc := hE.trans HE.out
      subst hE2
      clear hE HP HLe
      obtain ⟨b1, c1, hb1⟩ := ownG_slice HO.out.1
      obtain ⟨b2, c2, hb2⟩ := ownG_slice HO.out.2.1
      subst hb1
      subst hb2
      have HE1 := Lib.hid (eqB (· < w3.heap.size) (fun _ => True) ((f.flat o).enc.map fun t => (t.1 : Int)) gt b1 gc c1 _ (by rw [List.length_map]; exact HZl.out) (by rw [List.map_map]; exact (HG.out.1.keep (fun g hg => HO.out.2.2.1.block g hg))) (by rw [List.map_map]; exact ownG_arr HO.out.1 (fun _ _ _ => trivial)))
      have HE2 := Lib.hid (fun nq => eqI (· < w3.heap.size) (fun _ => True) ((f.flat o).enc.map fun t => t.2) gv b2 gd c2 _ (by rw [List.length_map]; exact HZl.out) (by rw [List.map_map]; exact (show ArrIn (· < w3.heap.size) (World.drewN _ nq) gv _ from (HG.out.2.keep (fun g hg => HO.out.2.2.1.block g hg)))) (by rw [List.map_map]; exact (show ArrIn (fun _ => True) (World.drewN _ nq) b2 _ from ownG_arr HO.out.2.1 (fun _ _ _ => trivial))))
      have HB := Lib.hid (HB3.out.trans (HO.out.2.2.1.mono HB3.out.size))
      simp only [List.length_map] at HE1 HE2
      simp only [tv, vv, List.length_map]
      clear HO
      generalize (f.flat o).enc.length = m at HE1 HE2 ⊢
      go_wp2_with fail
      try go_at_call 10
      refine HE1.out.mono ?_
      rintro e w6 ⟨rfl, n6, rfl⟩
      go_wp2_with fail
      try go_at_call 11
      refine (HE2.out n6).mono ?_
      rintro e w7 ⟨rfl, n7, rfl⟩
      go_wp2
      go_ret
      exact ⟨rfl, HB.out.trans ⟨rfl, rfl, rfl, Nat.le_refl _, fun _ _ => rfl⟩⟩
theorem em_all (P : Nat → Bool) (L : List (Nat × Int)) (f : Fo) (hf : L.map norm = f.enc) : em P L 0 = f.lvl P 0 := by
  rw [← em_norm, hf]
  have := em_enc P f 0 []
  rw [List.append_nil] at this
  rw [this]
  simp [em]
set_option maxRecDepth 100000 in
set_option maxHeartbeats 3200000 in
theorem lawFL (ta va : Option Addr) (tc vc : Nat) (tz vz : List Int) (h : Bool) (d : Nat) (w : World) (hs1 : ArgIn .u8 w ta tc tz) (hs2 : ArgIn .i64 w va vc vz) (hm1 : tz.length ≤ 9223372036854775807) (hm2 : vz.length ≤ 9223372036854775807) (ht0 : ∀ t ∈ tz, 0 ≤ t) (hd : d < 18446744073709551616) :
    Calls Tryz.prog 4 #[.slice ta tz.length tc, .slice va vz.length vc, .bool h, .float .f64 d] w (LawPost w) := by
  have H1 := Lib.hid hs1
  have H2 := Lib.hid hs2
  have H0 := Lib.hid ht0
  clear hs1 hs2 ht0
  by_cases hy : tz.length + vz.length ≤ 1048576
  · have HY := Lib.hid (bytesFL_yes ta va tz.length vz.length tc vc h d hy)
    by_cases hsz : tz.length + 8 * vz.length ≤ 1048576
    · by_cases hnn : tz.length = vz.length
      · obtain ⟨L, rfl, rfl⟩ := tokens_of tz vz hnn H0.out
        have HW := Lib.hid (wf_any ta tc _ w (by omega) H1.out)
        rw [wfT_wf] at HW
        simp only [List.length_map] at *
        cases hwf : wf L 0 with
        | false =>
          rw [hwf] at HW
          clear hwf hd
          generalize L.length = n at *
          go_enter Tryz.func4, Tryz.ntmps4
          go_wp2_with (go_at_call 12; refine (HY.out _).mono ?_; rintro e w' ⟨rfl, rfl⟩)
          try go_at_call 6
          refine HW.out.mono ?_
          rintro e w' ⟨rfl, nq, rfl⟩
          go_wp2
          go_ret
          exact ⟨rfl, below_drewN nq⟩
        | true =>
          obtain ⟨f, hf⟩ := wf_enc L hwf
          have hL : L.length ≤ 1048576 := by omega
          have hsf : f.size ≤ 1048576 := by rw [← Fo.enc_len, ← hf, List.length_map]; exact hL
          cases h with
          | false =>
            exact core_no ta va tc vc L f hf hwf d none (fun _ => false) w H1.out H2.out (by omega) (fun ta va c1 c2 W hW => zz_all L hL f hf d ta va c1 c2 W hW) (fun _ => rfl) (by rw [em_all _ L f hf, lvl_none])
          | true =>
            cases hlt : ltF d 0 with
            | true =>
              have hpp : (FloatKind.f64.format.order d d != some .eq) = true ∨ (FloatKind.f64.format.order d d != some .eq) = false ∧ (FloatKind.f64.format.order d 0 == some .lt) = true := by
                unfold ltF at hlt
                cases hx : (FloatKind.f64.format.order d d != some .eq) with
                | true => exact .inl rfl
                | false => rw [hx, Bool.or_false] at hlt; exact .inr ⟨rfl, hlt⟩
              rw [hwf] at HW
              have HC1 := Lib.hid (fun W hW => cloneB ta tc _ W (by rw [List.length_map]; omega) (H1.out.below hW))
              have HC2 := Lib.hid (fun W hW => cloneI va vc _ W (by rw [List.length_map]; omega) (H2.out.below hW))
              have HZ := Lib.hid (fun ta va c1 c2 W hW => zz_refused L hL f hf d hlt ta va c1 c2 W hW)
              simp only [List.length_map] at HC1 HC2
              clear hf hwf hsf hlt hd
              obtain ⟨n, hn⟩ : ∃ n, L.length = n := ⟨_, rfl⟩
              rw [hn] at HY HC1 HC2 HW HZ hL hsz hy ⊢
              clear hn
              rcases hpp with hp | ⟨hp, hp2⟩
              all_goals
                go_enter Tryz.func4, Tryz.ntmps4
                go_wp2_with (go_at_call 12; refine (HY.out _).mono ?_; rintro e w' ⟨rfl, rfl⟩)
                try go_at_call 6
                refine HW.out.mono ?_
                rintro e w' ⟨rfl, nq, rfl⟩
                go_wp2_with fail
                try go_at_call 7
                refine (HC1.out _ (below_drewN nq)).mono ?_
                rintro e w1 ⟨ta1, tc1, rfl, k1, kb1⟩
                have HK1 := Lib.hid k1
                have HB1 := Lib.hid (show Below w.heap.size w w1 from (below_drewN nq).trans kb1)
                clear k1 kb1 HC1 HW
                go_wp2_with fail
                try go_at_call 8
                refine (HC2.out _ HB1.out).mono ?_
                rintro e w2 ⟨va1, vc1, rfl, k2, kb2⟩
                have HT2 := Lib.hid (toks_of HK1.out kb2 k2)
                have HB2 := Lib.hid (HB1.out.trans (kb2.mono HB1.out.size))
                clear k2 kb2 HC2 HK1 HB1
                go_wp2_with fail
                try go_at_call 9
                refine (HZ.out _ _ _ _ _ HT2.out).mono ?_
                rintro e w3 ⟨rfl, kb3⟩
                have HB3 := Lib.hid (HB2.out.trans (kb3.mono HB2.out.size))
                clear kb3
                go_wp2
                go_ret
                exact ⟨rfl, HB3.out⟩
            | false =>
              obtain ⟨s, r, rfl, hr, hs⟩ := not_refused hd hlt
              obtain ⟨hp, hp2⟩ := dpos _ hlt
              by_cases hbig : R53 ≤ r
              · have hsf2 : s = false := by
                  cases s
                  · rfl
                  · have := hs rfl
                    have hp3 : 0 < R53 := by decide
                    omega
                subst hsf2
                exact core_int ta va tc vc L f hf hwf _ none (fun _ => false) w H1.out H2.out (by omega) (fun ta va c1 c2 W hW => zz_depth L hL f hf none _ (dok_big _ r (by have := Fo.deep_size f; omega) hbig hr) hlt ta va c1 c2 W hW) hp hp2 (integral_big false r hr hs hbig) (fun l hl => level_big r l hbig hr hl) (by rw [em_all _ L f hf, lvl_none])
              · have hrf : r < Ieee.double.infRung := Nat.lt_trans (by omega) r53_fin
                by_cases hx : whole r * U = val r
                · have hwl : whole r ≤ 2 * E52 := by
                    have : whole r < 9007199254740992 := by
                      unfold whole
                      rw [Nat.div_lt_iff_lt_mul U_pos, ← val_r53]
                      exact val_mono (by omega)
                    unfold E52
                    omega
                  have hI := integral_small s r hs (by omega)
                  rw [decide_eq_true hx] at hI
                  have hs0 : s = true → whole r = 0 := by
                    intro e
                    rw [hs e]
                    unfold whole
                    rw [val_zero, Nat.zero_div]
                  exact core_int ta va tc vc L f hf hwf _ (some (whole r)) (fun j => decide (whole r ≤ j)) w H1.out H2.out (by omega) (fun ta va c1 c2 W hW => zz_depth L hL f hf (some (whole r)) _ (dok_nat _ (whole r) s r hwl hs0 hrf hx.symm) hlt ta va c1 c2 W hW) hp hp2 hI (fun l hl => level_exact s r (whole r) l hrf hs hx.symm hl) (by rw [em_all _ L f hf, lvl_some, Nat.sub_zero])
                · have hsf2 : s = false := by
                    cases s
                    · rfl
                    · have := hs rfl
                      subst this
                      exact absurd (by unfold whole; rw [val_zero, Nat.zero_div, Nat.zero_mul]) hx
                  subst hsf2
                  have hI := integral_small false r hs (by omega)
                  rw [decide_eq_false hx] at hI
                  exact core_frac ta va tc vc L f hf hwf _ none (fun _ => false) w H1.out H2.out (by omega) (fun ta va c1 c2 W hW => zz_depth L hL f hf none _ (dok_frac _ r (by omega) hx) hlt ta va c1 c2 W hW) hp hp2 hI (fun _ => rfl) (by rw [em_all _ L f hf, lvl_none])
      · have hne : ((tz.length : Int) != (vz.length : Int)) = true := by rw [bne_iff_ne]; omega
        clear hd
        generalize tz.length = n1 at *
        generalize vz.length = n2 at *
        go_enter Tryz.func4, Tryz.ntmps4
        go_wp2_with (go_at_call 12; refine (HY.out _).mono ?_; rintro e w' ⟨rfl, rfl⟩)
        go_ret
        exact ⟨rfl, Below.refl _ _⟩
    · clear hd
      generalize tz.length = n1 at *
      generalize vz.length = n2 at *
      have q2 : 1048576 < n1 + 8 * n2 := by omega
      go_enter Tryz.func4, Tryz.ntmps4
      go_wp2_with (go_at_call 12; refine (HY.out _).mono ?_; rintro e w' ⟨rfl, rfl⟩)
      go_ret
      exact ⟨rfl, Below.refl _ _⟩
  · have HY := Lib.hid (bytesFL_no ta va tz.length vz.length tc vc h d (by omega) hm1 hm2)
    clear hd
    generalize tz.length = n1 at *
    generalize vz.length = n2 at *
    go_enter Tryz.func4, Tryz.ntmps4
    go_wp2_with (go_at_call 12; refine (HY.out _).mono ?_; rintro e w' ⟨rfl, rfl⟩)
    go_ret
    exact ⟨rfl, Below.refl _ _⟩
end Go.Proofs.YtlhndkonhjjcgaaGreatDoor
