/- encodeFloat64 over the limited writer, every float: the text as a plain function, the walks. Conditions: the tables lie as the row lists them. -/
import Derived.Test.YtdkccihoecpcaaaGreatFmtIntT
import Derived.Test.YtdkccihoecpcaaaGreatFmtFpB
import Derived.Test.YtdkccihoecpcaaaGreatFmtAf
import Derived.Test.YtdkccihoecpcaaaGreatFmtBldL
import Derived.Test.YtdkccihoecpcaaaGreatFmtMm
import Derived.BigRegion
import Derived.Test.YtdkccihoecpcaaaGreatFmtPrevL
namespace Go.Proofs.YtdkccihoecpcaaaGreatFmt
open Go
theorem dig8M (n : Nat) (h : n < 256) : (UInt8.ofNat n).toNat = n := by
  simp
  omega
/-- The exponent without its zero. -/
def clE (L : List UInt8) : List UInt8 :=
  match L.reverse with
  | d :: c :: b :: a :: P => if a = 101 ∧ b = 45 ∧ c = 48 then P.reverse ++ [a, b, d] else L
  | _ => L
theorem clE_at (P : List UInt8) (a b c d : UInt8) : clE (P ++ [a, b, c, d]) = if a = 101 ∧ b = 45 ∧ c = 48 then P ++ [a, b, d] else P ++ [a, b, c, d] := by
  unfold clE
  rw [show (P ++ [a, b, c, d]).reverse = d :: c :: b :: a :: P.reverse from by simp]
  simp
theorem ftE_four (s : Bool) (r : Nat) : ∃ P a b c d, ftE s r = P ++ [a, b, c, d] := by
  have h : 4 ≤ (ftE s r).length := by
    unfold ftE fmE exT
    simp only [List.length_append, List.length_cons, List.length_nil]
    repeat' split
    all_goals simp only [List.length_cons, List.length_nil]
    all_goals omega
  obtain ⟨n, hn⟩ : ∃ n, (ftE s r).length = n + 4 := ⟨(ftE s r).length - 4, by omega⟩
  refine ⟨(ftE s r).take n, (ftE s r)[n]'(by omega), (ftE s r)[n + 1]'(by omega), (ftE s r)[n + 2]'(by omega), (ftE s r)[n + 3]'(by omega), ?_⟩
  apply List.ext_getElem (by simp; omega)
  intro i h1 h2
  by_cases hi : i < n
  · rw [List.getElem_append_left (by simp; omega), List.getElem_take]
  · rw [List.getElem_append_right (by simp; omega)]
    have : i = n ∨ i = n + 1 ∨ i = n + 2 ∨ i = n + 3 := by omega
    have e : ((ftE s r).take n).length = n := by simp; omega
    rcases this with rfl | rfl | rfl | rfl <;> simp [hn, Nat.min_eq_left (Nat.le_add_right _ _), Nat.add_sub_cancel_left]
theorem u8_eqF (a : UInt8) (n : Nat) (h : n < 256) : ((a.toNat : Int) == (n : Int)) = decide (a = UInt8.ofNat n) := by
  by_cases e : a = UInt8.ofNat n
  · rw [decide_eq_true e, beq_iff_eq, e, dig8M n h]
  · rw [decide_eq_false e, beq_eq_false_iff_ne]
    intro h2
    apply e
    apply UInt8.toNat.inj
    rw [dig8M n h]
    exact_mod_cast h2
/-- The text that Marshal gives a finite float. -/
def mfT (s : Bool) (r : Nat) : List UInt8 := if r = 0 ∨ (4517329193108106637 ≤ r ∧ r < 4921056587992461136) then ftF s r else clE (ftE s r)
/-- The text that Marshal gives a float. -/
def marT (s : Bool) (r : Nat) : List UInt8 := if 9218868437227405312 < r then [110, 117, 108, 108] else if r = 9218868437227405312 then clE (ftE s 9218868437227405311) else mfT s r
theorem sgn_len (s : Bool) : (sgn s).length ≤ 1 := by cases s <;> simp [sgn]
theorem fD_len (r : Nat) : (fD r).length ≤ (Lib.decDigits (shD (fM r) (fE r))).length := trim_len _
theorem dd_bd (r : Nat) (h0 : 0 < r) (hr : r < Ieee.double.infRung) : (Lib.decDigits (shD (fM r) (fE r))).length ≤ 20 := by
  obtain ⟨d1, d2⟩ := shD_bd (fM_good h0 hr)
  exact dd_len _ (by omega)
theorem sh_bd (r : Nat) (h1 : 4517329193108106637 ≤ r) (h2 : r < 4921056587992461136) : -25 ≤ shP (fM r) (fE r) ∧ shP (fM r) (fE r) ≤ 8 := by
  have e52 : E52 = 4503599627370496 := rfl
  have hn := mg_normal (r := r) (by omega)
  have hb : bl (mg r) = 53 := by unfold bl; rw [if_neg (by omega), log2_top hn.1 hn.2]
  have hpl : pl r = -1074 + ((r / 4503599627370496 - 1 : Nat) : Int) := by unfold pl; rw [if_neg (by omega), e52]
  have he : -84 ≤ fE r ∧ fE r ≤ 7 := by unfold fE; rw [hb, hpl]; omega
  have hs : -7 ≤ sP (fM r) (fE r) ∧ sP (fM r) (fE r) ≤ 24 := by
    unfold sP
    split
    · unfold skw
      omega
    · split
      · unfold l10
        omega
      · omega
  unfold shP
  split <;> omega
theorem ftF_len (s : Bool) (r : Nat) (h : r = 0 ∨ (4517329193108106637 ≤ r ∧ r < 4921056587992461136)) : 1 ≤ (ftF s r).length ∧ (ftF s r).length ≤ 29 := by
  have hg := sgn_len s
  unfold ftF
  split
  · rw [List.length_append, List.length_singleton]; omega
  · rename_i h0
    have h' := h.resolve_left h0
    have b1 := sh_bd r h'.1 h'.2
    have b2 := dd_bd r (by omega) (by rw [d_inf]; omega)
    have b3 := fD_len r
    have b4 := dec_len_pos (shD (fM r) (fE r))
    have b5 : fP r = ((Lib.decDigits (shD (fM r) (fE r))).length : Int) + shP (fM r) (fE r) := rfl
    generalize (Lib.decDigits (shD (fM r) (fE r))).length = n at *
    generalize shP (fM r) (fE r) = q at *
    generalize fP r = dp at *
    generalize fD r = D at *
    unfold fmF
    rw [List.length_append, List.length_append]
    by_cases c1 : 0 < dp
    · rw [if_pos c1, List.length_append, List.length_take, List.length_replicate]
      by_cases c2 : dp < (D.length : Int)
      · rw [if_pos c2, List.length_cons, List.length_append, List.length_replicate, List.length_drop]; omega
      · rw [if_neg c2, List.length_nil]; omega
    · rw [if_neg c1, List.length_singleton]
      by_cases c2 : dp < (D.length : Int)
      · rw [if_pos c2, List.length_cons, List.length_append, List.length_replicate, List.length_drop]; omega
      · rw [if_neg c2, List.length_nil]; omega
theorem ex_len (x : Int) : 3 ≤ (exT x).length ∧ (exT x).length ≤ 4 := by
  unfold exT
  rw [List.length_cons]
  split
  · simp
  · split <;> simp
theorem ftE_len (s : Bool) (r : Nat) (h0 : 0 < r) (hr : r < Ieee.double.infRung) : 4 ≤ (ftE s r).length ∧ (ftE s r).length ≤ 29 := by
  have hg := sgn_len s
  have b2 := dd_bd r h0 hr
  have b3 := fD_len r
  have b4 := ex_len (fP r - 1)
  unfold ftE fmE
  rw [List.length_append, List.length_append, List.length_append, List.length_append, List.length_singleton, List.length_singleton]
  by_cases c : 1 < (fD r).length
  · rw [if_pos c, List.length_cons, List.length_drop]; omega
  · rw [if_neg c, List.length_nil]; omega
theorem clE_len (s : Bool) (r : Nat) (h0 : 0 < r) (hr : r < Ieee.double.infRung) : 1 ≤ (clE (ftE s r)).length ∧ (clE (ftE s r)).length ≤ 29 := by
  have h := ftE_len s r h0 hr
  obtain ⟨P, a, b, c, d, hL⟩ := ftE_four s r
  rw [hL] at h ⊢
  rw [List.length_append] at h
  simp only [List.length_cons, List.length_nil] at h
  rw [clE_at]
  split
  · rw [List.length_append]; simp only [List.length_cons, List.length_nil]; omega
  · rw [List.length_append]; simp only [List.length_cons, List.length_nil]; omega
theorem marT_len (s : Bool) (r : Nat) : 1 ≤ (marT s r).length ∧ (marT s r).length ≤ 29 := by
  unfold marT
  split
  · simp
  · split
    · exact clE_len _ _ (by omega) (by rw [d_inf]; omega)
    · unfold mfT
      split
      · exact ftF_len _ _ (by assumption)
      · exact clE_len _ _ (by omega) (by rw [d_inf]; omega)
theorem val_one : val 4607182418800017408 = 1 * U := by
  have h := val_pw 0
  have e : pw (0 + 1) = 4607182418800017408 := by decide
  rw [e] at h
  rw [h, Nat.pow_zero]
theorem val_53 : val 4845873199050653696 = 9007199254740992 * U := by
  have h := val_pw 53
  have e : pw (53 + 1) = 4845873199050653696 := by decide
  have e2 : (2 : Nat) ^ 53 = 9007199254740992 := by decide
  rw [e, e2] at h
  exact h
theorem whole_53 {r : Nat} (h : r < 4845873199050653696) : whole r < 9007199254740992 := by
  unfold whole
  rw [Nat.div_lt_iff_lt_mul U_pos, ← val_53]
  exact val_mono h
/-- The text of a whole float. -/
theorem marT_whole (s : Bool) (r : Nat) (h0 : 0 < whole r) (h : r < 4845873199050653696) (hv : val r = whole r * U) : marT s r = Lib.itoa (if s = true then -(whole r : Int) else (whole r : Int)) := by
  have h1 : 4607182418800017408 ≤ r := by
    rcases Nat.lt_or_ge r 4607182418800017408 with e | e
    · have := val_mono e
      rw [val_one] at this
      have h2 := Nat.mul_le_mul_right U (show 1 ≤ whole r from h0)
      omega
    · exact e
  unfold marT
  rw [if_neg (by omega), if_neg (by omega)]
  unfold mfT
  rw [if_pos (Or.inr (by omega)), ftF_whole s r (whole r) h0 (whole_53 h) hv]
  unfold Lib.itoa sgn
  cases s
  · simp
  · have hneg : (if true = true then -(whole r : Int) else (whole r : Int)) < 0 := by simp; omega
    rw [if_pos hneg]
    simp
end Go.Proofs.YtdkccihoecpcaaaGreatFmt
namespace Go.Proofs.YtdkccihoecpcaaaGreatFmt
open Go.RowKit Go
theorem putAt_none (cur : Array Value) (_h : cur.size = 65) : putAt cur 1 (Lib.byteCells []) = cur := by
  unfold putAt
  apply Array.ext'
  simp [Lib.byteCells]
  rw [← List.drop_one, List.take_append_drop]
/-- What the encoder's own buffer holds goes to the writer. -/
theorem wrLl {B b eb : Nat} {l : List UInt8} {w : World} (h : StL B b eb l w) (cur : Array Value) (he : EncL w eb b cur) (L : List UInt8) (hl : l.length + L.length < 32) (w1 : World) (hd : Dst eb cur L w1) (ht : Touch [eb] w w1) :
    Calls Tryz.prog 301 #[.pointer (some ⟨b, 0, none⟩), .slice (some ⟨eb, 1, none⟩) L.length 64] w1 (WrL B b eb (l ++ L) (.tuple #[.int .i64 L.length, .nilIface]) w) := by
  have hL := hd.2.2
  have he1 : EncL w1 eb b (putAt cur 1 (Lib.byteCells L)) := ⟨hd.1, by rw [putAt_low _ _ _ _ (by rw [he.size, bc_len]; omega) (by omega)]; exact he.w0, by rw [putAt_size _ _ _ (by rw [he.size, bc_len]; omega)]; exact he.size⟩
  obtain ⟨st, fr⟩ := h.touched ht _ he1
  exact (wrL0 st L 64 _ hd.1 (fun j u hj => by
    have hjl : j < (Lib.byteCells L).length := (List.getElem?_eq_some_iff.1 hj).1
    rw [← hj]
    exact putAt_new cur 1 _ j (by rw [he.size, bc_len]; omega) hjl) (by omega)).mono fun _ _ ⟨r1, r2, r3⟩ => ⟨r1, r2, fr.trans r3⟩
theorem ord_pos (r q : Nat) (hr : r ≤ 9218868437227405312) (hq : q ≤ 9218868437227405312) : (FloatKind.f64.format.order r q == some .lt) = decide (r < q) ∧ (FloatKind.f64.format.order r q == some .gt) = decide (q < r) ∧ (FloatKind.f64.format.order r q == some .eq) = decide (r = q) := by
  obtain ⟨a1, a2, a3⟩ := ord_pair false false r q hr hq
  rw [word_false, word_false] at a1 a2 a3
  rw [a1, a2, a3]
  simp [sv]
  omega
set_option maxRecDepth 100000 in
set_option maxHeartbeats 1600000 in
theorem encL_ff {B b eb : Nat} {l : List UInt8} {w : World} (h : StL B b eb l w) (s : Bool) (r : Nat) (hz : r = 0 ∨ 4517329193108106637 ≤ r) (hr : r < 4921056587992461136) (hp : r = 0 ∨ (-30 ≤ fP r ∧ fP r ≤ 30)) (T : Nat) (ht : Tabs T w) (hl : l.length + (ftF s r).length < 32) :
    Calls Tryz.prog 42 #[.pointer (some ⟨eb, 0, none⟩), .float .f64 (Ieee.double.word s r)] w (WrL B b eb (l ++ ftF s r) (.tuple #[]) w) := by
  have c0 := h.c0
  obtain ⟨cur, he⟩ := h.enc
  have HN := Lib.hid (isNaN_any s r (by omega))
  rw [show decide (9218868437227405312 < r) = false from decide_eq_false (by omega)] at HN
  have HA := Lib.hid (abs_any s r (by omega))
  have hmax := run_maxf s r (by omega) 22 #[22, 22 ]
  have hmin := run_minf s r (by omega) 22 #[22, 22 ]
  have hd : Dst eb cur [] w := ⟨by rw [putAt_none cur he.size]; exact he.row, he.size, by simp⟩
  have HF := Lib.hid (afP (Ieee.double.word s r) eb 102 cur (ftF s r) w (ftoaF s T eb r cur w hd (by rw [d_inf]; omega) hp ht))
  have HW := Lib.hid (wrLl h cur he (ftF s r) hl)
  have o1 := (ord_pos r 4517329193108106637 (by omega) (by omega)).1
  obtain ⟨_, o2, o3⟩ := ord_pos r 4921056587992461136 (by omega) (by omega)
  rw [decide_eq_false (by omega)] at o2 o3
  have o0 := (ord_pos r 0 (by omega) (by omega)).2.2
  have hbad : (FloatKind.f64.format.order r 0 != some .eq) = false ∨ ((FloatKind.f64.format.order r 0 != some .eq) = true ∧ (FloatKind.f64.format.order r 4517329193108106637 == some .lt) = false) := by
    rw [bne, o0, o1]
    by_cases h : r = 0
    · subst h; exact .inl rfl
    · have h2 := hz.resolve_left h
      exact .inr ⟨by rw [decide_eq_false h]; rfl, decide_eq_false (by omega)⟩
  have hc1 : ∀ w1, Dst eb cur (ftF s r) w1 → w1.cell? ⟨eb, 0, none⟩ = some (.iface 112 (.pointer (some ⟨b, 0, none⟩))) := fun w1 hd1 => by
    simp only [World.cell?, hd1.1]
    rw [putAt_low _ _ _ _ (by have := hd1.2.2; rw [he.size, bc_len]; omega) (by omega)]
    exact he.w0
  have HC1 := Lib.hid hc1
  clear o0 o1 hz hd he h hc1
  generalize Ieee.double.word s r = X at *
  generalize ftF s r = L at *
  rcases hbad with g0 | ⟨g0, g1⟩
  · go_enter Tryz.func42, Tryz.ntmps42
    go_wp2_with (go_at_call 53; refine (HN.out _).mono ?_; rintro e w' ⟨rfl, rfl⟩)
    try go_at_call 54
    refine (HA.out _).mono ?_
    rintro e w' ⟨rfl, rfl⟩
    go_wp2_with fail
    try go_at_call 55
    refine HF.out.mono ?_
    rintro e w1 ⟨rfl, hd1, ht1⟩
    have HD1 := Lib.hid hd1
    have HT1 := Lib.hid ht1
    have c1 := HC1.out w1 hd1
    clear hd1 ht1
    go_wp2_with fail
    try go_at_call 301
    refine (HW.out _ HD1.out HT1.out).mono ?_
    rintro e w2 ⟨rfl, hS, hF⟩
    go_wp2
    go_end0
    exact ⟨rfl, hS, hF⟩
  · go_enter Tryz.func42, Tryz.ntmps42
    go_wp2_with (go_at_call 53; refine (HN.out _).mono ?_; rintro e w' ⟨rfl, rfl⟩)
    try go_at_call 54
    refine (HA.out _).mono ?_
    rintro e w' ⟨rfl, rfl⟩
    go_wp2_with fail
    try go_at_call 55
    refine HF.out.mono ?_
    rintro e w1 ⟨rfl, hd1, ht1⟩
    have HD1 := Lib.hid hd1
    have HT1 := Lib.hid ht1
    have c1 := HC1.out w1 hd1
    clear hd1 ht1
    go_wp2_with fail
    try go_at_call 301
    refine (HW.out _ HD1.out HT1.out).mono ?_
    rintro e w2 ⟨rfl, hS, hF⟩
    go_wp2
    go_end0
    exact ⟨rfl, hS, hF⟩
end Go.Proofs.YtdkccihoecpcaaaGreatFmt
namespace Go.Proofs.YtdkccihoecpcaaaGreatFmt
open Go.RowKit Go
theorem dst_at {eb : Nat} {cur : Array Value} {L : List UInt8} {w : World} (h : Dst eb cur L w) (j : Nat) (hj : j < L.length) : w.cell? ⟨eb, 1 + j, none⟩ = some (.int .u8 ((L[j]'hj).toNat : Int)) ∧ w.frozen? ⟨eb, 1 + j, none⟩ = false := by
  refine ⟨?_, by simp [World.frozen?, h.1]⟩
  rw [Lib.cell_of_heap h.1, putAt_new cur 1 _ j (by rw [h.2.1, bc_len]; have := h.2.2; omega) (by rw [bc_len]; exact hj)]
  simp [Lib.byteCells, hj]
theorem tail_at (P R : List UInt8) (j k : Nat) (h : j = P.length + k) (hk : k < R.length) (hj : j < (P ++ R).length) : (P ++ R)[j]'hj = R[k]'hk := by
  subst h
  rw [List.getElem_append_right (by omega)]
  congr 1
  omega
/-- What stands ahead of the store, written out but for the zero. -/
theorem wrCutL {B b eb : Nat} {l : List UInt8} {w : World} (h : StL B b eb l w) (cur : Array Value) (he : EncL w eb b cur) (P : List UInt8) (a b0 c d : UInt8) (hl : l.length + (P ++ [a, b0, c, d]).length < 32) (p : Nat) (hp : p = P.length) (w1 : World) (hd : Dst eb cur (P ++ [a, b0, c, d]) w1) (ht : Touch [eb] w w1) :
    Calls Tryz.prog 301 #[.pointer (some ⟨b, 0, none⟩), .slice (some ⟨eb, 1, none⟩) (p + 3) 64] (w1.setCell ⟨eb, 1 + (p + 2), none⟩ (.int .u8 (d.toNat : Int))) (WrL B b eb (l ++ (P ++ [a, b0, d])) (.tuple #[.int .i64 ((P ++ [a, b0, d]).length : Int), .nilIface]) w) := by
  have hL := hd.2.2
  have hs := hd.2.1
  have hlen : (P ++ [a, b0, c, d]).length = p + 4 := by rw [hp]; simp
  have hlen3 : (P ++ [a, b0, d]).length = p + 3 := by rw [hp]; simp
  have hrow := heap_setCell_same w1 eb (1 + (p + 2)) _ _ (.int .u8 (d.toNat : Int)) hd.1
  have hsz : (putAt cur 1 (Lib.byteCells (P ++ [a, b0, c, d]))).size = 65 := by rw [putAt_size _ _ _ (by rw [hs, bc_len]; omega)]; exact hs
  have he1 : EncL (w1.setCell ⟨eb, 1 + (p + 2), none⟩ (.int .u8 (d.toNat : Int))) eb b _ := ⟨hrow, by
    rw [Array.getElem?_setIfInBounds_ne (by omega), putAt_low _ _ _ _ (by rw [hs, bc_len]; omega) (by omega)]
    exact he.w0, by rw [Array.size_setIfInBounds]; exact hsz⟩
  have ht2 : Touch [eb] w (w1.setCell ⟨eb, 1 + (p + 2), none⟩ (.int .u8 (d.toNat : Int))) := by
    rw [setCell_eq_setRow w1 eb _ _ _ _ _ hd.1]
    exact ht.setRow eb (.inl (by simp)) _
  obtain ⟨st, fr⟩ := h.touched ht2 _ he1
  have hw := wrL0 st (P ++ [a, b0, d]) 64 _ hrow (fun j u hj => by
    have hjl : j < (Lib.byteCells (P ++ [a, b0, d])).length := (List.getElem?_eq_some_iff.1 hj).1
    rw [bc_len, hlen3] at hjl
    by_cases e : j = p + 2
    · subst e
      rw [Array.getElem?_setIfInBounds_self_of_lt (by rw [hsz]; omega), ← hj]
      simp only [Lib.byteCells, List.getElem?_map]
      rw [List.getElem?_append_right (by omega), show p + 2 - P.length = 2 from by omega]
      rfl
    · rw [Array.getElem?_setIfInBounds_ne (by omega), putAt_new cur 1 _ j (by rw [hs, bc_len]; omega) (by rw [bc_len, hlen]; omega), ← hj]
      simp only [Lib.byteCells, List.getElem?_map]
      congr 1
      have e1 : (P ++ [a, b0, c, d])[j]? = (P ++ [a, b0])[j]? := by
        rw [show P ++ [a, b0, c, d] = (P ++ [a, b0]) ++ [c, d] from by simp]
        exact List.getElem?_append_left (by rw [List.length_append]; simp only [List.length_cons, List.length_nil]; omega)
      have e2 : (P ++ [a, b0, d])[j]? = (P ++ [a, b0])[j]? := by
        rw [show P ++ [a, b0, d] = (P ++ [a, b0]) ++ [d] from by simp]
        exact List.getElem?_append_left (by rw [List.length_append]; simp only [List.length_cons, List.length_nil]; omega)
      rw [e1, e2]) (by omega)
  rw [hlen3] at hw
  rw [hlen3]
  exact hw.mono fun _ _ ⟨r1, r2, r3⟩ => ⟨r1, r2, fr.trans r3⟩
set_option maxRecDepth 100000 in
set_option maxHeartbeats 3200000 in
theorem encL_fe0 {B b eb : Nat} {l : List UInt8} {w : World} (h : StL B b eb l w) (s : Bool) (r : Nat) (h0 : 0 < r) (hz : r < 4517329193108106637 ∨ 4921056587992461136 ≤ r) (hr : r ≤ 9218868437227405311) (T : Nat) (ht : Tabs T w) (hl : l.length + (ftE s r).length < 32) (P : List UInt8) (a b0 c d : UInt8) (hL : ftE s r = P ++ [a, b0, c, d]) (ga : ((a.toNat : Int) == 101) = false) (Y Z : Nat) (hY : ∀ w, Calls Tryz.prog 53 #[.float .f64 Y] w (Ret (.bool false) w)) (hmax : ∀ w, (Builtin.max_ #[22, 22 ] 22 #[.float .f64 Y, .float .f64 18442240474082181119]).run Tryz.prog w = .ok (.float .f64 Z) w) (hmin : ∀ w, (Builtin.min_ #[22, 22 ] 22 #[.float .f64 Z, .float .f64 9218868437227405311]).run Tryz.prog w = .ok (.float .f64 (Ieee.double.word s r)) w) :
    Calls Tryz.prog 42 #[.pointer (some ⟨eb, 0, none⟩), .float .f64 Y] w (WrL B b eb (l ++ (P ++ [a, b0, c, d])) (.tuple #[]) w) := by
  have c0 := h.c0
  obtain ⟨cur, he⟩ := h.enc
  have HN := Lib.hid hY
  have HA := Lib.hid (abs_any s r (by omega))
  have hd : Dst eb cur [] w := ⟨by rw [putAt_none cur he.size]; exact he.row, he.size, by simp⟩
  have hF := afP (Ieee.double.word s r) eb 101 cur (ftE s r) w (ftoaE s T eb r cur w hd h0 (by rw [d_inf]; omega) ht)
  rw [hL] at hF hl
  obtain ⟨p, hp⟩ : ∃ p, p = P.length := ⟨_, rfl⟩
  have hpl : (P ++ [a, b0, c, d]).length = p + 4 := by rw [hp]; simp
  have HF := Lib.hid (show Calls Tryz.prog 55 #[.slice (some ⟨eb, 1, none⟩) 0 64, .float .f64 (Ieee.double.word s r), .int .u8 101, .int .i64 (-1), .int .i64 64] w (fun e w' => e = .returned (.slice (some ⟨eb, 1, none⟩) (p + 4) 64) ∧ Dst eb cur (P ++ [a, b0, c, d]) w' ∧ Touch [eb] w w') from hF.mono fun e w' h => by
    unfold FmtPost at h
    rw [hpl] at h
    exact h)
  have o0 := (ord_pos r 0 (by omega) (by omega)).2.2
  have o1 := (ord_pos r 4517329193108106637 (by omega) (by omega)).1
  obtain ⟨_, o2, o3⟩ := ord_pos r 4921056587992461136 (by omega) (by omega)
  have g0 : (FloatKind.f64.format.order r 0 != some .eq) = true := by rw [bne, o0, decide_eq_false (by omega)]; rfl
  have hbad : (FloatKind.f64.format.order r 4517329193108106637 == some .lt) = true ∨ ((FloatKind.f64.format.order r 4517329193108106637 == some .lt) = false ∧ (FloatKind.f64.format.order r 4921056587992461136 == some .gt || FloatKind.f64.format.order r 4921056587992461136 == some .eq) = true) := by
    rw [o1, o2, o3]
    by_cases h : r < 4517329193108106637
    · exact .inl (decide_eq_true h)
    · refine .inr ⟨decide_eq_false h, ?_⟩
      by_cases e : r = 4921056587992461136
      · rw [decide_eq_true e, Bool.or_true]
      · rw [decide_eq_true (show 4921056587992461136 < r by omega), Bool.true_or]
  have hc1 : ∀ w1, Dst eb cur (P ++ [a, b0, c, d]) w1 → w1.cell? ⟨eb, 0, none⟩ = some (.iface 112 (.pointer (some ⟨b, 0, none⟩))) := fun w1 hd1 => by
    simp only [World.cell?, hd1.1]
    rw [putAt_low _ _ _ _ (by have := hd1.2.2; rw [he.size, bc_len]; omega) (by omega)]
    exact he.w0
  have HC1 := Lib.hid hc1
  have HP := Lib.hid hp
  have HPL := Lib.hid hpl
  have HW4 := Lib.hid (show ∀ w1, Dst eb cur (P ++ [a, b0, c, d]) w1 → Touch [eb] w w1 → Calls Tryz.prog 301 #[.pointer (some ⟨b, 0, none⟩), .slice (some ⟨eb, 1, none⟩) (p + 4) 64] w1 (WrL B b eb (l ++ (P ++ [a, b0, c, d])) (.tuple #[.int .i64 ((P ++ [a, b0, c, d]).length : Int), .nilIface]) w) from fun w1 hd ht => by
    have h2 := wrLl h cur he (P ++ [a, b0, c, d]) hl w1 hd ht
    rw [hpl] at h2
    rw [hpl]
    exact h2)
  have HS := Lib.hid h
  have HE := Lib.hid he
  clear o0 o1 o2 o3 hz hd he h hF hL hp hpl hc1 hY
  generalize Ieee.double.word s r = X at *
  rcases hbad with g1 | ⟨g1, g2⟩
  · go_enter Tryz.func42, Tryz.ntmps42
    go_wp2_with (go_at_call 53; refine (HN.out _).mono ?_; rintro e w' ⟨rfl, rfl⟩)
    try go_at_call 54
    refine (HA.out _).mono ?_
    rintro e w' ⟨rfl, rfl⟩
    go_wp2_with fail
    try go_at_call 55
    refine HF.out.mono ?_
    rintro e w1 ⟨rfl, hd1, ht1⟩
    have HD1 := Lib.hid hd1
    have HT1 := Lib.hid ht1
    have n1 : (p : Int) + 4 - 3 = (p : Int) + 1 := by omega
    have n2 : (p : Int) + 4 - 2 = (p : Int) + 2 := by omega
    have n3 : (p : Int) + 4 - 1 = (p : Int) + 3 := by omega
    have hz2 : p ≤ 60 := by
      have := hd1.2.2
      rw [HPL.out] at this
      omega
    have q0 := (dst_at hd1 p (by rw [HPL.out]; omega)).1
    have q1 := (dst_at hd1 (p + 1) (by rw [HPL.out]; omega)).1
    have q2 := dst_at hd1 (p + 2) (by rw [HPL.out]; omega)
    have q3 := (dst_at hd1 (p + 3) (by rw [HPL.out]; omega)).1
    rw [tail_at P [a, b0, c, d] p 0 HP.out (by simp) (by rw [HPL.out]; omega)] at q0
    rw [tail_at P [a, b0, c, d] (p + 1) 1 (by rw [HP.out]) (by simp) (by rw [HPL.out]; omega)] at q1
    rw [tail_at P [a, b0, c, d] (p + 2) 2 (by rw [HP.out]) (by simp) (by rw [HPL.out]; omega)] at q2
    rw [tail_at P [a, b0, c, d] (p + 3) 3 (by rw [HP.out]) (by simp) (by rw [HPL.out]; omega)] at q3
    obtain ⟨q2, q2f⟩ := q2
    simp only [List.getElem_cons_zero, List.getElem_cons_succ] at q0 q1 q2 q3
    have c1 := HC1.out w1 hd1
    clear hd1 ht1
    go_wp2_with fail
    try go_at_call 301
    refine (HW4.out w1 HD1.out HT1.out).mono ?_
    rintro e w2 ⟨rfl, hS, hF⟩
    go_wp2
    go_end0
    exact ⟨rfl, hS, hF⟩
  · go_enter Tryz.func42, Tryz.ntmps42
    go_wp2_with (go_at_call 53; refine (HN.out _).mono ?_; rintro e w' ⟨rfl, rfl⟩)
    try go_at_call 54
    refine (HA.out _).mono ?_
    rintro e w' ⟨rfl, rfl⟩
    go_wp2_with fail
    try go_at_call 55
    refine HF.out.mono ?_
    rintro e w1 ⟨rfl, hd1, ht1⟩
    have HD1 := Lib.hid hd1
    have HT1 := Lib.hid ht1
    have n1 : (p : Int) + 4 - 3 = (p : Int) + 1 := by omega
    have n2 : (p : Int) + 4 - 2 = (p : Int) + 2 := by omega
    have n3 : (p : Int) + 4 - 1 = (p : Int) + 3 := by omega
    have hz2 : p ≤ 60 := by
      have := hd1.2.2
      rw [HPL.out] at this
      omega
    have q0 := (dst_at hd1 p (by rw [HPL.out]; omega)).1
    have q1 := (dst_at hd1 (p + 1) (by rw [HPL.out]; omega)).1
    have q2 := dst_at hd1 (p + 2) (by rw [HPL.out]; omega)
    have q3 := (dst_at hd1 (p + 3) (by rw [HPL.out]; omega)).1
    rw [tail_at P [a, b0, c, d] p 0 HP.out (by simp) (by rw [HPL.out]; omega)] at q0
    rw [tail_at P [a, b0, c, d] (p + 1) 1 (by rw [HP.out]) (by simp) (by rw [HPL.out]; omega)] at q1
    rw [tail_at P [a, b0, c, d] (p + 2) 2 (by rw [HP.out]) (by simp) (by rw [HPL.out]; omega)] at q2
    rw [tail_at P [a, b0, c, d] (p + 3) 3 (by rw [HP.out]) (by simp) (by rw [HPL.out]; omega)] at q3
    obtain ⟨q2, q2f⟩ := q2
    simp only [List.getElem_cons_zero, List.getElem_cons_succ] at q0 q1 q2 q3
    have c1 := HC1.out w1 hd1
    clear hd1 ht1
    go_wp2_with fail
    try go_at_call 301
    refine (HW4.out w1 HD1.out HT1.out).mono ?_
    rintro e w2 ⟨rfl, hS, hF⟩
    go_wp2
    go_end0
    exact ⟨rfl, hS, hF⟩
set_option maxRecDepth 100000 in
set_option maxHeartbeats 3200000 in
theorem encL_fe1 {B b eb : Nat} {l : List UInt8} {w : World} (h : StL B b eb l w) (s : Bool) (r : Nat) (h0 : 0 < r) (hz : r < 4517329193108106637 ∨ 4921056587992461136 ≤ r) (hr : r ≤ 9218868437227405311) (T : Nat) (ht : Tabs T w) (hl : l.length + (ftE s r).length < 32) (P : List UInt8) (a b0 c d : UInt8) (hL : ftE s r = P ++ [a, b0, c, d]) (ga : ((a.toNat : Int) == 101) = true) (gb : ((b0.toNat : Int) == 45) = false) (Y Z : Nat) (hY : ∀ w, Calls Tryz.prog 53 #[.float .f64 Y] w (Ret (.bool false) w)) (hmax : ∀ w, (Builtin.max_ #[22, 22 ] 22 #[.float .f64 Y, .float .f64 18442240474082181119]).run Tryz.prog w = .ok (.float .f64 Z) w) (hmin : ∀ w, (Builtin.min_ #[22, 22 ] 22 #[.float .f64 Z, .float .f64 9218868437227405311]).run Tryz.prog w = .ok (.float .f64 (Ieee.double.word s r)) w) :
    Calls Tryz.prog 42 #[.pointer (some ⟨eb, 0, none⟩), .float .f64 Y] w (WrL B b eb (l ++ (P ++ [a, b0, c, d])) (.tuple #[]) w) := by
  have c0 := h.c0
  obtain ⟨cur, he⟩ := h.enc
  have HN := Lib.hid hY
  have HA := Lib.hid (abs_any s r (by omega))
  have hd : Dst eb cur [] w := ⟨by rw [putAt_none cur he.size]; exact he.row, he.size, by simp⟩
  have hF := afP (Ieee.double.word s r) eb 101 cur (ftE s r) w (ftoaE s T eb r cur w hd h0 (by rw [d_inf]; omega) ht)
  rw [hL] at hF hl
  obtain ⟨p, hp⟩ : ∃ p, p = P.length := ⟨_, rfl⟩
  have hpl : (P ++ [a, b0, c, d]).length = p + 4 := by rw [hp]; simp
  have HF := Lib.hid (show Calls Tryz.prog 55 #[.slice (some ⟨eb, 1, none⟩) 0 64, .float .f64 (Ieee.double.word s r), .int .u8 101, .int .i64 (-1), .int .i64 64] w (fun e w' => e = .returned (.slice (some ⟨eb, 1, none⟩) (p + 4) 64) ∧ Dst eb cur (P ++ [a, b0, c, d]) w' ∧ Touch [eb] w w') from hF.mono fun e w' h => by
    unfold FmtPost at h
    rw [hpl] at h
    exact h)
  have o0 := (ord_pos r 0 (by omega) (by omega)).2.2
  have o1 := (ord_pos r 4517329193108106637 (by omega) (by omega)).1
  obtain ⟨_, o2, o3⟩ := ord_pos r 4921056587992461136 (by omega) (by omega)
  have g0 : (FloatKind.f64.format.order r 0 != some .eq) = true := by rw [bne, o0, decide_eq_false (by omega)]; rfl
  have hbad : (FloatKind.f64.format.order r 4517329193108106637 == some .lt) = true ∨ ((FloatKind.f64.format.order r 4517329193108106637 == some .lt) = false ∧ (FloatKind.f64.format.order r 4921056587992461136 == some .gt || FloatKind.f64.format.order r 4921056587992461136 == some .eq) = true) := by
    rw [o1, o2, o3]
    by_cases h : r < 4517329193108106637
    · exact .inl (decide_eq_true h)
    · refine .inr ⟨decide_eq_false h, ?_⟩
      by_cases e : r = 4921056587992461136
      · rw [decide_eq_true e, Bool.or_true]
      · rw [decide_eq_true (show 4921056587992461136 < r by omega), Bool.true_or]
  have hc1 : ∀ w1, Dst eb cur (P ++ [a, b0, c, d]) w1 → w1.cell? ⟨eb, 0, none⟩ = some (.iface 112 (.pointer (some ⟨b, 0, none⟩))) := fun w1 hd1 => by
    simp only [World.cell?, hd1.1]
    rw [putAt_low _ _ _ _ (by have := hd1.2.2; rw [he.size, bc_len]; omega) (by omega)]
    exact he.w0
  have HC1 := Lib.hid hc1
  have HP := Lib.hid hp
  have HPL := Lib.hid hpl
  have HW4 := Lib.hid (show ∀ w1, Dst eb cur (P ++ [a, b0, c, d]) w1 → Touch [eb] w w1 → Calls Tryz.prog 301 #[.pointer (some ⟨b, 0, none⟩), .slice (some ⟨eb, 1, none⟩) (p + 4) 64] w1 (WrL B b eb (l ++ (P ++ [a, b0, c, d])) (.tuple #[.int .i64 ((P ++ [a, b0, c, d]).length : Int), .nilIface]) w) from fun w1 hd ht => by
    have h2 := wrLl h cur he (P ++ [a, b0, c, d]) hl w1 hd ht
    rw [hpl] at h2
    rw [hpl]
    exact h2)
  have HS := Lib.hid h
  have HE := Lib.hid he
  clear o0 o1 o2 o3 hz hd he h hF hL hp hpl hc1 hY
  generalize Ieee.double.word s r = X at *
  rcases hbad with g1 | ⟨g1, g2⟩
  · go_enter Tryz.func42, Tryz.ntmps42
    go_wp2_with (go_at_call 53; refine (HN.out _).mono ?_; rintro e w' ⟨rfl, rfl⟩)
    try go_at_call 54
    refine (HA.out _).mono ?_
    rintro e w' ⟨rfl, rfl⟩
    go_wp2_with fail
    try go_at_call 55
    refine HF.out.mono ?_
    rintro e w1 ⟨rfl, hd1, ht1⟩
    have HD1 := Lib.hid hd1
    have HT1 := Lib.hid ht1
    have n1 : (p : Int) + 4 - 3 = (p : Int) + 1 := by omega
    have n2 : (p : Int) + 4 - 2 = (p : Int) + 2 := by omega
    have n3 : (p : Int) + 4 - 1 = (p : Int) + 3 := by omega
    have hz2 : p ≤ 60 := by
      have := hd1.2.2
      rw [HPL.out] at this
      omega
    have q0 := (dst_at hd1 p (by rw [HPL.out]; omega)).1
    have q1 := (dst_at hd1 (p + 1) (by rw [HPL.out]; omega)).1
    have q2 := dst_at hd1 (p + 2) (by rw [HPL.out]; omega)
    have q3 := (dst_at hd1 (p + 3) (by rw [HPL.out]; omega)).1
    rw [tail_at P [a, b0, c, d] p 0 HP.out (by simp) (by rw [HPL.out]; omega)] at q0
    rw [tail_at P [a, b0, c, d] (p + 1) 1 (by rw [HP.out]) (by simp) (by rw [HPL.out]; omega)] at q1
    rw [tail_at P [a, b0, c, d] (p + 2) 2 (by rw [HP.out]) (by simp) (by rw [HPL.out]; omega)] at q2
    rw [tail_at P [a, b0, c, d] (p + 3) 3 (by rw [HP.out]) (by simp) (by rw [HPL.out]; omega)] at q3
    obtain ⟨q2, q2f⟩ := q2
    simp only [List.getElem_cons_zero, List.getElem_cons_succ] at q0 q1 q2 q3
    have c1 := HC1.out w1 hd1
    clear hd1 ht1
    go_wp2_with fail
    try go_at_call 301
    refine (HW4.out w1 HD1.out HT1.out).mono ?_
    rintro e w2 ⟨rfl, hS, hF⟩
    go_wp2
    go_end0
    exact ⟨rfl, hS, hF⟩
  · go_enter Tryz.func42, Tryz.ntmps42
    go_wp2_with (go_at_call 53; refine (HN.out _).mono ?_; rintro e w' ⟨rfl, rfl⟩)
    try go_at_call 54
    refine (HA.out _).mono ?_
    rintro e w' ⟨rfl, rfl⟩
    go_wp2_with fail
    try go_at_call 55
    refine HF.out.mono ?_
    rintro e w1 ⟨rfl, hd1, ht1⟩
    have HD1 := Lib.hid hd1
    have HT1 := Lib.hid ht1
    have n1 : (p : Int) + 4 - 3 = (p : Int) + 1 := by omega
    have n2 : (p : Int) + 4 - 2 = (p : Int) + 2 := by omega
    have n3 : (p : Int) + 4 - 1 = (p : Int) + 3 := by omega
    have hz2 : p ≤ 60 := by
      have := hd1.2.2
      rw [HPL.out] at this
      omega
    have q0 := (dst_at hd1 p (by rw [HPL.out]; omega)).1
    have q1 := (dst_at hd1 (p + 1) (by rw [HPL.out]; omega)).1
    have q2 := dst_at hd1 (p + 2) (by rw [HPL.out]; omega)
    have q3 := (dst_at hd1 (p + 3) (by rw [HPL.out]; omega)).1
    rw [tail_at P [a, b0, c, d] p 0 HP.out (by simp) (by rw [HPL.out]; omega)] at q0
    rw [tail_at P [a, b0, c, d] (p + 1) 1 (by rw [HP.out]) (by simp) (by rw [HPL.out]; omega)] at q1
    rw [tail_at P [a, b0, c, d] (p + 2) 2 (by rw [HP.out]) (by simp) (by rw [HPL.out]; omega)] at q2
    rw [tail_at P [a, b0, c, d] (p + 3) 3 (by rw [HP.out]) (by simp) (by rw [HPL.out]; omega)] at q3
    obtain ⟨q2, q2f⟩ := q2
    simp only [List.getElem_cons_zero, List.getElem_cons_succ] at q0 q1 q2 q3
    have c1 := HC1.out w1 hd1
    clear hd1 ht1
    go_wp2_with fail
    try go_at_call 301
    refine (HW4.out w1 HD1.out HT1.out).mono ?_
    rintro e w2 ⟨rfl, hS, hF⟩
    go_wp2
    go_end0
    exact ⟨rfl, hS, hF⟩
set_option maxRecDepth 100000 in
set_option maxHeartbeats 3200000 in
theorem encL_fe2 {B b eb : Nat} {l : List UInt8} {w : World} (h : StL B b eb l w) (s : Bool) (r : Nat) (h0 : 0 < r) (hz : r < 4517329193108106637 ∨ 4921056587992461136 ≤ r) (hr : r ≤ 9218868437227405311) (T : Nat) (ht : Tabs T w) (hl : l.length + (ftE s r).length < 32) (P : List UInt8) (a b0 c d : UInt8) (hL : ftE s r = P ++ [a, b0, c, d]) (ga : ((a.toNat : Int) == 101) = true) (gb : ((b0.toNat : Int) == 45) = true) (gc : ((c.toNat : Int) == 48) = false) (Y Z : Nat) (hY : ∀ w, Calls Tryz.prog 53 #[.float .f64 Y] w (Ret (.bool false) w)) (hmax : ∀ w, (Builtin.max_ #[22, 22 ] 22 #[.float .f64 Y, .float .f64 18442240474082181119]).run Tryz.prog w = .ok (.float .f64 Z) w) (hmin : ∀ w, (Builtin.min_ #[22, 22 ] 22 #[.float .f64 Z, .float .f64 9218868437227405311]).run Tryz.prog w = .ok (.float .f64 (Ieee.double.word s r)) w) :
    Calls Tryz.prog 42 #[.pointer (some ⟨eb, 0, none⟩), .float .f64 Y] w (WrL B b eb (l ++ (P ++ [a, b0, c, d])) (.tuple #[]) w) := by
  have c0 := h.c0
  obtain ⟨cur, he⟩ := h.enc
  have HN := Lib.hid hY
  have HA := Lib.hid (abs_any s r (by omega))
  have hd : Dst eb cur [] w := ⟨by rw [putAt_none cur he.size]; exact he.row, he.size, by simp⟩
  have hF := afP (Ieee.double.word s r) eb 101 cur (ftE s r) w (ftoaE s T eb r cur w hd h0 (by rw [d_inf]; omega) ht)
  rw [hL] at hF hl
  obtain ⟨p, hp⟩ : ∃ p, p = P.length := ⟨_, rfl⟩
  have hpl : (P ++ [a, b0, c, d]).length = p + 4 := by rw [hp]; simp
  have HF := Lib.hid (show Calls Tryz.prog 55 #[.slice (some ⟨eb, 1, none⟩) 0 64, .float .f64 (Ieee.double.word s r), .int .u8 101, .int .i64 (-1), .int .i64 64] w (fun e w' => e = .returned (.slice (some ⟨eb, 1, none⟩) (p + 4) 64) ∧ Dst eb cur (P ++ [a, b0, c, d]) w' ∧ Touch [eb] w w') from hF.mono fun e w' h => by
    unfold FmtPost at h
    rw [hpl] at h
    exact h)
  have o0 := (ord_pos r 0 (by omega) (by omega)).2.2
  have o1 := (ord_pos r 4517329193108106637 (by omega) (by omega)).1
  obtain ⟨_, o2, o3⟩ := ord_pos r 4921056587992461136 (by omega) (by omega)
  have g0 : (FloatKind.f64.format.order r 0 != some .eq) = true := by rw [bne, o0, decide_eq_false (by omega)]; rfl
  have hbad : (FloatKind.f64.format.order r 4517329193108106637 == some .lt) = true ∨ ((FloatKind.f64.format.order r 4517329193108106637 == some .lt) = false ∧ (FloatKind.f64.format.order r 4921056587992461136 == some .gt || FloatKind.f64.format.order r 4921056587992461136 == some .eq) = true) := by
    rw [o1, o2, o3]
    by_cases h : r < 4517329193108106637
    · exact .inl (decide_eq_true h)
    · refine .inr ⟨decide_eq_false h, ?_⟩
      by_cases e : r = 4921056587992461136
      · rw [decide_eq_true e, Bool.or_true]
      · rw [decide_eq_true (show 4921056587992461136 < r by omega), Bool.true_or]
  have hc1 : ∀ w1, Dst eb cur (P ++ [a, b0, c, d]) w1 → w1.cell? ⟨eb, 0, none⟩ = some (.iface 112 (.pointer (some ⟨b, 0, none⟩))) := fun w1 hd1 => by
    simp only [World.cell?, hd1.1]
    rw [putAt_low _ _ _ _ (by have := hd1.2.2; rw [he.size, bc_len]; omega) (by omega)]
    exact he.w0
  have HC1 := Lib.hid hc1
  have HP := Lib.hid hp
  have HPL := Lib.hid hpl
  have HW4 := Lib.hid (show ∀ w1, Dst eb cur (P ++ [a, b0, c, d]) w1 → Touch [eb] w w1 → Calls Tryz.prog 301 #[.pointer (some ⟨b, 0, none⟩), .slice (some ⟨eb, 1, none⟩) (p + 4) 64] w1 (WrL B b eb (l ++ (P ++ [a, b0, c, d])) (.tuple #[.int .i64 ((P ++ [a, b0, c, d]).length : Int), .nilIface]) w) from fun w1 hd ht => by
    have h2 := wrLl h cur he (P ++ [a, b0, c, d]) hl w1 hd ht
    rw [hpl] at h2
    rw [hpl]
    exact h2)
  have HS := Lib.hid h
  have HE := Lib.hid he
  clear o0 o1 o2 o3 hz hd he h hF hL hp hpl hc1 hY
  generalize Ieee.double.word s r = X at *
  rcases hbad with g1 | ⟨g1, g2⟩
  · go_enter Tryz.func42, Tryz.ntmps42
    go_wp2_with (go_at_call 53; refine (HN.out _).mono ?_; rintro e w' ⟨rfl, rfl⟩)
    try go_at_call 54
    refine (HA.out _).mono ?_
    rintro e w' ⟨rfl, rfl⟩
    go_wp2_with fail
    try go_at_call 55
    refine HF.out.mono ?_
    rintro e w1 ⟨rfl, hd1, ht1⟩
    have HD1 := Lib.hid hd1
    have HT1 := Lib.hid ht1
    have n1 : (p : Int) + 4 - 3 = (p : Int) + 1 := by omega
    have n2 : (p : Int) + 4 - 2 = (p : Int) + 2 := by omega
    have n3 : (p : Int) + 4 - 1 = (p : Int) + 3 := by omega
    have hz2 : p ≤ 60 := by
      have := hd1.2.2
      rw [HPL.out] at this
      omega
    have q0 := (dst_at hd1 p (by rw [HPL.out]; omega)).1
    have q1 := (dst_at hd1 (p + 1) (by rw [HPL.out]; omega)).1
    have q2 := dst_at hd1 (p + 2) (by rw [HPL.out]; omega)
    have q3 := (dst_at hd1 (p + 3) (by rw [HPL.out]; omega)).1
    rw [tail_at P [a, b0, c, d] p 0 HP.out (by simp) (by rw [HPL.out]; omega)] at q0
    rw [tail_at P [a, b0, c, d] (p + 1) 1 (by rw [HP.out]) (by simp) (by rw [HPL.out]; omega)] at q1
    rw [tail_at P [a, b0, c, d] (p + 2) 2 (by rw [HP.out]) (by simp) (by rw [HPL.out]; omega)] at q2
    rw [tail_at P [a, b0, c, d] (p + 3) 3 (by rw [HP.out]) (by simp) (by rw [HPL.out]; omega)] at q3
    obtain ⟨q2, q2f⟩ := q2
    simp only [List.getElem_cons_zero, List.getElem_cons_succ] at q0 q1 q2 q3
    have c1 := HC1.out w1 hd1
    clear hd1 ht1
    go_wp2_with fail
    try go_at_call 301
    refine (HW4.out w1 HD1.out HT1.out).mono ?_
    rintro e w2 ⟨rfl, hS, hF⟩
    go_wp2
    go_end0
    exact ⟨rfl, hS, hF⟩
  · go_enter Tryz.func42, Tryz.ntmps42
    go_wp2_with (go_at_call 53; refine (HN.out _).mono ?_; rintro e w' ⟨rfl, rfl⟩)
    try go_at_call 54
    refine (HA.out _).mono ?_
    rintro e w' ⟨rfl, rfl⟩
    go_wp2_with fail
    try go_at_call 55
    refine HF.out.mono ?_
    rintro e w1 ⟨rfl, hd1, ht1⟩
    have HD1 := Lib.hid hd1
    have HT1 := Lib.hid ht1
    have n1 : (p : Int) + 4 - 3 = (p : Int) + 1 := by omega
    have n2 : (p : Int) + 4 - 2 = (p : Int) + 2 := by omega
    have n3 : (p : Int) + 4 - 1 = (p : Int) + 3 := by omega
    have hz2 : p ≤ 60 := by
      have := hd1.2.2
      rw [HPL.out] at this
      omega
    have q0 := (dst_at hd1 p (by rw [HPL.out]; omega)).1
    have q1 := (dst_at hd1 (p + 1) (by rw [HPL.out]; omega)).1
    have q2 := dst_at hd1 (p + 2) (by rw [HPL.out]; omega)
    have q3 := (dst_at hd1 (p + 3) (by rw [HPL.out]; omega)).1
    rw [tail_at P [a, b0, c, d] p 0 HP.out (by simp) (by rw [HPL.out]; omega)] at q0
    rw [tail_at P [a, b0, c, d] (p + 1) 1 (by rw [HP.out]) (by simp) (by rw [HPL.out]; omega)] at q1
    rw [tail_at P [a, b0, c, d] (p + 2) 2 (by rw [HP.out]) (by simp) (by rw [HPL.out]; omega)] at q2
    rw [tail_at P [a, b0, c, d] (p + 3) 3 (by rw [HP.out]) (by simp) (by rw [HPL.out]; omega)] at q3
    obtain ⟨q2, q2f⟩ := q2
    simp only [List.getElem_cons_zero, List.getElem_cons_succ] at q0 q1 q2 q3
    have c1 := HC1.out w1 hd1
    clear hd1 ht1
    go_wp2_with fail
    try go_at_call 301
    refine (HW4.out w1 HD1.out HT1.out).mono ?_
    rintro e w2 ⟨rfl, hS, hF⟩
    go_wp2
    go_end0
    exact ⟨rfl, hS, hF⟩
set_option maxRecDepth 100000 in
set_option maxHeartbeats 3200000 in
theorem encL_fe3 {B b eb : Nat} {l : List UInt8} {w : World} (h : StL B b eb l w) (s : Bool) (r : Nat) (h0 : 0 < r) (hz : r < 4517329193108106637 ∨ 4921056587992461136 ≤ r) (hr : r ≤ 9218868437227405311) (T : Nat) (ht : Tabs T w) (hl : l.length + (ftE s r).length < 32) (P : List UInt8) (a b0 c d : UInt8) (hL : ftE s r = P ++ [a, b0, c, d]) (ga : ((a.toNat : Int) == 101) = true) (gb : ((b0.toNat : Int) == 45) = true) (gc : ((c.toNat : Int) == 48) = true) (Y Z : Nat) (hY : ∀ w, Calls Tryz.prog 53 #[.float .f64 Y] w (Ret (.bool false) w)) (hmax : ∀ w, (Builtin.max_ #[22, 22 ] 22 #[.float .f64 Y, .float .f64 18442240474082181119]).run Tryz.prog w = .ok (.float .f64 Z) w) (hmin : ∀ w, (Builtin.min_ #[22, 22 ] 22 #[.float .f64 Z, .float .f64 9218868437227405311]).run Tryz.prog w = .ok (.float .f64 (Ieee.double.word s r)) w) :
    Calls Tryz.prog 42 #[.pointer (some ⟨eb, 0, none⟩), .float .f64 Y] w (WrL B b eb (l ++ (P ++ [a, b0, d])) (.tuple #[]) w) := by
  have c0 := h.c0
  obtain ⟨cur, he⟩ := h.enc
  have HN := Lib.hid hY
  have HA := Lib.hid (abs_any s r (by omega))
  have hd : Dst eb cur [] w := ⟨by rw [putAt_none cur he.size]; exact he.row, he.size, by simp⟩
  have hF := afP (Ieee.double.word s r) eb 101 cur (ftE s r) w (ftoaE s T eb r cur w hd h0 (by rw [d_inf]; omega) ht)
  rw [hL] at hF hl
  obtain ⟨p, hp⟩ : ∃ p, p = P.length := ⟨_, rfl⟩
  have hpl : (P ++ [a, b0, c, d]).length = p + 4 := by rw [hp]; simp
  have HF := Lib.hid (show Calls Tryz.prog 55 #[.slice (some ⟨eb, 1, none⟩) 0 64, .float .f64 (Ieee.double.word s r), .int .u8 101, .int .i64 (-1), .int .i64 64] w (fun e w' => e = .returned (.slice (some ⟨eb, 1, none⟩) (p + 4) 64) ∧ Dst eb cur (P ++ [a, b0, c, d]) w' ∧ Touch [eb] w w') from hF.mono fun e w' h => by
    unfold FmtPost at h
    rw [hpl] at h
    exact h)
  have o0 := (ord_pos r 0 (by omega) (by omega)).2.2
  have o1 := (ord_pos r 4517329193108106637 (by omega) (by omega)).1
  obtain ⟨_, o2, o3⟩ := ord_pos r 4921056587992461136 (by omega) (by omega)
  have g0 : (FloatKind.f64.format.order r 0 != some .eq) = true := by rw [bne, o0, decide_eq_false (by omega)]; rfl
  have hbad : (FloatKind.f64.format.order r 4517329193108106637 == some .lt) = true ∨ ((FloatKind.f64.format.order r 4517329193108106637 == some .lt) = false ∧ (FloatKind.f64.format.order r 4921056587992461136 == some .gt || FloatKind.f64.format.order r 4921056587992461136 == some .eq) = true) := by
    rw [o1, o2, o3]
    by_cases h : r < 4517329193108106637
    · exact .inl (decide_eq_true h)
    · refine .inr ⟨decide_eq_false h, ?_⟩
      by_cases e : r = 4921056587992461136
      · rw [decide_eq_true e, Bool.or_true]
      · rw [decide_eq_true (show 4921056587992461136 < r by omega), Bool.true_or]
  have hc1 : ∀ w1, Dst eb cur (P ++ [a, b0, c, d]) w1 → w1.cell? ⟨eb, 0, none⟩ = some (.iface 112 (.pointer (some ⟨b, 0, none⟩))) := fun w1 hd1 => by
    simp only [World.cell?, hd1.1]
    rw [putAt_low _ _ _ _ (by have := hd1.2.2; rw [he.size, bc_len]; omega) (by omega)]
    exact he.w0
  have HC1 := Lib.hid hc1
  have HP := Lib.hid hp
  have HPL := Lib.hid hpl
  have HW4 := Lib.hid (show ∀ w1, Dst eb cur (P ++ [a, b0, c, d]) w1 → Touch [eb] w w1 → Calls Tryz.prog 301 #[.pointer (some ⟨b, 0, none⟩), .slice (some ⟨eb, 1, none⟩) (p + 4) 64] w1 (WrL B b eb (l ++ (P ++ [a, b0, c, d])) (.tuple #[.int .i64 ((P ++ [a, b0, c, d]).length : Int), .nilIface]) w) from fun w1 hd ht => by
    have h2 := wrLl h cur he (P ++ [a, b0, c, d]) hl w1 hd ht
    rw [hpl] at h2
    rw [hpl]
    exact h2)
  have HS := Lib.hid h
  have HE := Lib.hid he
  clear o0 o1 o2 o3 hz hd he h hF hL hp hpl hc1 hY
  generalize Ieee.double.word s r = X at *
  rcases hbad with g1 | ⟨g1, g2⟩
  · go_enter Tryz.func42, Tryz.ntmps42
    go_wp2_with (go_at_call 53; refine (HN.out _).mono ?_; rintro e w' ⟨rfl, rfl⟩)
    try go_at_call 54
    refine (HA.out _).mono ?_
    rintro e w' ⟨rfl, rfl⟩
    go_wp2_with fail
    try go_at_call 55
    refine HF.out.mono ?_
    rintro e w1 ⟨rfl, hd1, ht1⟩
    have HD1 := Lib.hid hd1
    have HT1 := Lib.hid ht1
    have n1 : (p : Int) + 4 - 3 = (p : Int) + 1 := by omega
    have n2 : (p : Int) + 4 - 2 = (p : Int) + 2 := by omega
    have n3 : (p : Int) + 4 - 1 = (p : Int) + 3 := by omega
    have hz2 : p ≤ 60 := by
      have := hd1.2.2
      rw [HPL.out] at this
      omega
    have q0 := (dst_at hd1 p (by rw [HPL.out]; omega)).1
    have q1 := (dst_at hd1 (p + 1) (by rw [HPL.out]; omega)).1
    have q2 := dst_at hd1 (p + 2) (by rw [HPL.out]; omega)
    have q3 := (dst_at hd1 (p + 3) (by rw [HPL.out]; omega)).1
    rw [tail_at P [a, b0, c, d] p 0 HP.out (by simp) (by rw [HPL.out]; omega)] at q0
    rw [tail_at P [a, b0, c, d] (p + 1) 1 (by rw [HP.out]) (by simp) (by rw [HPL.out]; omega)] at q1
    rw [tail_at P [a, b0, c, d] (p + 2) 2 (by rw [HP.out]) (by simp) (by rw [HPL.out]; omega)] at q2
    rw [tail_at P [a, b0, c, d] (p + 3) 3 (by rw [HP.out]) (by simp) (by rw [HPL.out]; omega)] at q3
    obtain ⟨q2, q2f⟩ := q2
    simp only [List.getElem_cons_zero, List.getElem_cons_succ] at q0 q1 q2 q3
    have c1 := HC1.out w1 hd1
    clear hd1 ht1
    go_wp2_with fail
    try go_at_call 301
    refine (wrCutL HS.out cur HE.out P a b0 c d hl p HP.out w1 HD1.out HT1.out).mono ?_
    rintro e w2 ⟨rfl, hS, hF⟩
    go_wp2
    go_end0
    exact ⟨rfl, hS, hF⟩
  · go_enter Tryz.func42, Tryz.ntmps42
    go_wp2_with (go_at_call 53; refine (HN.out _).mono ?_; rintro e w' ⟨rfl, rfl⟩)
    try go_at_call 54
    refine (HA.out _).mono ?_
    rintro e w' ⟨rfl, rfl⟩
    go_wp2_with fail
    try go_at_call 55
    refine HF.out.mono ?_
    rintro e w1 ⟨rfl, hd1, ht1⟩
    have HD1 := Lib.hid hd1
    have HT1 := Lib.hid ht1
    have n1 : (p : Int) + 4 - 3 = (p : Int) + 1 := by omega
    have n2 : (p : Int) + 4 - 2 = (p : Int) + 2 := by omega
    have n3 : (p : Int) + 4 - 1 = (p : Int) + 3 := by omega
    have hz2 : p ≤ 60 := by
      have := hd1.2.2
      rw [HPL.out] at this
      omega
    have q0 := (dst_at hd1 p (by rw [HPL.out]; omega)).1
    have q1 := (dst_at hd1 (p + 1) (by rw [HPL.out]; omega)).1
    have q2 := dst_at hd1 (p + 2) (by rw [HPL.out]; omega)
    have q3 := (dst_at hd1 (p + 3) (by rw [HPL.out]; omega)).1
    rw [tail_at P [a, b0, c, d] p 0 HP.out (by simp) (by rw [HPL.out]; omega)] at q0
    rw [tail_at P [a, b0, c, d] (p + 1) 1 (by rw [HP.out]) (by simp) (by rw [HPL.out]; omega)] at q1
    rw [tail_at P [a, b0, c, d] (p + 2) 2 (by rw [HP.out]) (by simp) (by rw [HPL.out]; omega)] at q2
    rw [tail_at P [a, b0, c, d] (p + 3) 3 (by rw [HP.out]) (by simp) (by rw [HPL.out]; omega)] at q3
    obtain ⟨q2, q2f⟩ := q2
    simp only [List.getElem_cons_zero, List.getElem_cons_succ] at q0 q1 q2 q3
    have c1 := HC1.out w1 hd1
    clear hd1 ht1
    go_wp2_with fail
    try go_at_call 301
    refine (wrCutL HS.out cur HE.out P a b0 c d hl p HP.out w1 HD1.out HT1.out).mono ?_
    rintro e w2 ⟨rfl, hS, hF⟩
    go_wp2
    go_end0
    exact ⟨rfl, hS, hF⟩
end Go.Proofs.YtdkccihoecpcaaaGreatFmt
namespace Go.Proofs.YtdkccihoecpcaaaGreatFmt
open Go.RowKit Go
theorem encL_fe {B b eb : Nat} {l : List UInt8} {w : World} (h : StL B b eb l w) (s : Bool) (r : Nat) (h0 : 0 < r) (hz : r < 4517329193108106637 ∨ 4921056587992461136 ≤ r) (hr : r ≤ 9218868437227405311) (T : Nat) (ht : Tabs T w) (hl : l.length + (ftE s r).length < 32)
    (Y Z : Nat) (hY : ∀ w, Calls Tryz.prog 53 #[.float .f64 Y] w (Ret (.bool false) w)) (hmax : ∀ w, (Builtin.max_ #[22, 22 ] 22 #[.float .f64 Y, .float .f64 18442240474082181119]).run Tryz.prog w = .ok (.float .f64 Z) w) (hmin : ∀ w, (Builtin.min_ #[22, 22 ] 22 #[.float .f64 Z, .float .f64 9218868437227405311]).run Tryz.prog w = .ok (.float .f64 (Ieee.double.word s r)) w) :
    Calls Tryz.prog 42 #[.pointer (some ⟨eb, 0, none⟩), .float .f64 Y] w (WrL B b eb (l ++ clE (ftE s r)) (.tuple #[]) w) := by
  obtain ⟨P, a, b0, c, d, hL⟩ := ftE_four s r
  rw [hL, clE_at]
  have ea := u8_eqF a 101 (by omega)
  have eb' := u8_eqF b0 45 (by omega)
  have ec := u8_eqF c 48 (by omega)
  by_cases ha : a = 101
  · rw [decide_eq_true (show a = UInt8.ofNat 101 from ha)] at ea
    by_cases hb : b0 = 45
    · rw [decide_eq_true (show b0 = UInt8.ofNat 45 from hb)] at eb'
      by_cases hc : c = 48
      · rw [decide_eq_true (show c = UInt8.ofNat 48 from hc)] at ec
        rw [if_pos ⟨ha, hb, hc⟩]
        exact encL_fe3 h s r h0 hz hr T ht hl P a b0 c d hL ea eb' ec Y Z hY hmax hmin
      · rw [decide_eq_false (show ¬ c = UInt8.ofNat 48 from hc)] at ec
        rw [if_neg (fun x => hc x.2.2)]
        exact encL_fe2 h s r h0 hz hr T ht hl P a b0 c d hL ea eb' ec Y Z hY hmax hmin
    · rw [decide_eq_false (show ¬ b0 = UInt8.ofNat 45 from hb)] at eb'
      rw [if_neg (fun x => hb x.2.1)]
      exact encL_fe1 h s r h0 hz hr T ht hl P a b0 c d hL ea eb' Y Z hY hmax hmin
  · rw [decide_eq_false (show ¬ a = UInt8.ofNat 101 from ha)] at ea
    rw [if_neg (fun x => ha x.1)]
    exact encL_fe0 h s r h0 hz hr T ht hl P a b0 c d hL ea Y Z hY hmax hmin
theorem max_pinf (w : World) : (Builtin.max_ #[22, 22 ] 22 #[.float .f64 9218868437227405312, .float .f64 18442240474082181119]).run Tryz.prog w = .ok (.float .f64 9218868437227405312) w := by
  have ho : FloatKind.f64.format.order 9218868437227405312 18442240474082181119 = some .gt := by decide +kernel
  simp [Builtin.max_, Builtin.max2, ho]
theorem min_pinf (w : World) : (Builtin.min_ #[22, 22 ] 22 #[.float .f64 9218868437227405312, .float .f64 9218868437227405311]).run Tryz.prog w = .ok (.float .f64 (Ieee.double.word false 9218868437227405311)) w := by
  have ho : FloatKind.f64.format.order 9218868437227405312 9218868437227405311 = some .gt := by decide +kernel
  rw [w_hi]
  simp [Builtin.min_, Builtin.min2, ho]
theorem max_ninf (w : World) : (Builtin.max_ #[22, 22 ] 22 #[.float .f64 18442240474082181120, .float .f64 18442240474082181119]).run Tryz.prog w = .ok (.float .f64 18442240474082181119) w := by
  have ho : FloatKind.f64.format.order 18442240474082181120 18442240474082181119 = some .lt := by decide +kernel
  simp [Builtin.max_, Builtin.max2, ho]
theorem min_ninf (w : World) : (Builtin.min_ #[22, 22 ] 22 #[.float .f64 18442240474082181119, .float .f64 9218868437227405311]).run Tryz.prog w = .ok (.float .f64 (Ieee.double.word true 9218868437227405311)) w := by
  have ho : FloatKind.f64.format.order 18442240474082181119 9218868437227405311 = some .lt := by decide +kernel
  rw [w_lo]
  simp [Builtin.min_, Builtin.min2, ho]
/-- An infinity is written as the greatest. -/
theorem encL_inf {B b eb : Nat} {l : List UInt8} {w : World} (h : StL B b eb l w) (s : Bool) (T : Nat) (ht : Tabs T w) (hl : l.length + (ftE s 9218868437227405311).length < 32) :
    Calls Tryz.prog 42 #[.pointer (some ⟨eb, 0, none⟩), .float .f64 (Ieee.double.word s 9218868437227405312)] w (WrL B b eb (l ++ clE (ftE s 9218868437227405311)) (.tuple #[]) w) := by
  have hn : ∀ w, Calls Tryz.prog 53 #[.float .f64 (Ieee.double.word s 9218868437227405312)] w (Ret (.bool false) w) := fun w => by
    have h := isNaN_any s 9218868437227405312 (by omega) w
    rwa [decide_eq_false (by omega)] at h
  cases s
  · exact encL_fe h false 9218868437227405311 (by omega) (by omega) (by omega) T ht hl _ _ hn max_pinf min_pinf
  · exact encL_fe h true 9218868437227405311 (by omega) (by omega) (by omega) T ht hl _ _ hn max_ninf min_ninf
set_option maxRecDepth 100000 in
set_option maxHeartbeats 1600000 in
theorem encL_nan {B b eb : Nat} {l : List UInt8} {w : World} (h : StL B b eb l w) (Y : Nat) (hY : ∀ w, Calls Tryz.prog 53 #[.float .f64 Y] w (Ret (.bool true) w)) (hl : l.length + 4 < 32) :
    Calls Tryz.prog 42 #[.pointer (some ⟨eb, 0, none⟩), .float .f64 Y] w (WrL B b eb (l ++ [110, 117, 108, 108]) (.tuple #[]) w) := by
  have c0 := h.c0
  have HN := Lib.hid hY
  have HS := Lib.hid (wsL0 h ⟨#[110, 117, 108, 108]⟩ (by have : (⟨#[110, 117, 108, 108]⟩ : ByteArray).size = 4 := rfl; omega))
  clear h hY
  go_enter Tryz.func42, Tryz.ntmps42
  go_wp2_with (go_at_call 53; refine (HN.out _).mono ?_; rintro e w' ⟨rfl, rfl⟩)
  try go_at_call 303
  refine HS.out.mono ?_
  rintro e w2 ⟨rfl, hS, hF⟩
  go_wp2
  refine bodyPost_ret (results_none rfl _ _ _) rfl ?_
  exact ⟨rfl, hS, hF⟩
set_option maxRecDepth 100000 in
set_option maxHeartbeats 1600000 in
theorem encL_via {B b eb : Nat} {L : List UInt8} {w : World} (Y : Nat) (h : Calls Tryz.prog 42 #[.pointer (some ⟨eb, 0, none⟩), .float .f64 Y] w (WrL B b eb L (.tuple #[]) w)) :
    Calls Tryz.prog 33 #[.pointer (some ⟨eb, 0, none⟩), .iface 22 (.float .f64 Y)] w (WrL B b eb L (.tuple #[]) w) := by
  have HE := Lib.hid h
  clear h
  go_enter Tryz.func33, Tryz.ntmps33
  go_wp2_with (go_at_call 42; refine HE.out.mono ?_; rintro e w' ⟨rfl, hS, hF⟩)
  go_end0
  exact ⟨rfl, hS, hF⟩
theorem encL_fin {B b eb : Nat} {l : List UInt8} {w : World} (h : StL B b eb l w) (s : Bool) (r : Nat) (hr : r ≤ 9218868437227405311) (hp : 4517329193108106637 ≤ r → r < 4921056587992461136 → -30 ≤ fP r ∧ fP r ≤ 30) (T : Nat) (ht : Tabs T w) (hl : l = []) :
    Calls Tryz.prog 42 #[.pointer (some ⟨eb, 0, none⟩), .float .f64 (Ieee.double.word s r)] w (WrL B b eb (l ++ mfT s r) (.tuple #[]) w) := by
  have hn : ∀ w, Calls Tryz.prog 53 #[.float .f64 (Ieee.double.word s r)] w (Ret (.bool false) w) := fun w => by
    have h := isNaN_any s r (by omega) w
    rwa [decide_eq_false (by omega)] at h
  have l1 : r = 0 ∨ (4517329193108106637 ≤ r ∧ r < 4921056587992461136) → l.length + (ftF s r).length < 32 := fun hh => by have := (ftF_len s r hh).2; rw [hl, List.length_nil]; omega
  have l2 : 0 < r → l.length + (ftE s r).length < 32 := fun hh => by have := (ftE_len s r hh (by rw [d_inf]; omega)).2; rw [hl, List.length_nil]; omega
  unfold mfT
  by_cases hf : r = 0 ∨ (4517329193108106637 ≤ r ∧ r < 4921056587992461136)
  · rw [if_pos hf]
    exact encL_ff h s r (by omega) (by omega) (by by_cases e : r = 0; exact .inl e; exact .inr (hp (by omega) (by omega))) T ht (l1 hf)
  · rw [if_neg hf]
    exact encL_fe h s r (by omega) (by omega) hr T ht (l2 (by omega)) _ _ hn (fun w => run_maxf s r hr _ _ w) (fun w => run_minf s r hr _ _ w)
theorem tabs_ofL {w : World} (hP : P10 w.heap.size w) (hT : Tab w.heap.size w) : Tabs w.heap.size w :=
  ⟨fun _ hW => p10_below hP hW, fun _ hW => (tab_touch hT (Touch.of_below hW) (by simp)).1⟩
theorem encOkL_float (w : World) (s : Bool) (r : Nat) (hr : r < 9223372036854775808) (hP : P10 w.heap.size w) (hT : Tab w.heap.size w) : EncOkL w (.iface 22 (.float .f64 (Ieee.double.word s r))) (marT s r) := by
  intro w1 b eb hb h
  have ht : Tabs w.heap.size w1 := tabs_below (tabs_ofL hP hT) hb
  refine Calls.mono ?_ (fun _ _ hh => Or.inl hh)
  refine encL_via _ ?_
  unfold marT
  by_cases h1 : 9218868437227405312 < r
  · rw [if_pos h1]
    have hn : ∀ w, Calls Tryz.prog 53 #[.float .f64 (Ieee.double.word s r)] w (Ret (.bool true) w) := fun w => by
      have h := isNaN_any s r hr w
      rwa [decide_eq_true h1] at h
    have := encL_nan h _ hn (by simp)
    rwa [List.nil_append] at this
  · rw [if_neg h1]
    by_cases h2 : r = 9218868437227405312
    · subst h2
      rw [if_pos rfl]
      have := encL_inf h s _ ht (by have := (ftE_len s 9218868437227405311 (by omega) (by rw [d_inf]; omega)).2; simp; omega)
      rwa [List.nil_append] at this
    · rw [if_neg h2]
      have := encL_fin h s r (by omega) (fun a b => fP_bd r a b) _ ht rfl
      rwa [List.nil_append] at this
end Go.Proofs.YtdkccihoecpcaaaGreatFmt
