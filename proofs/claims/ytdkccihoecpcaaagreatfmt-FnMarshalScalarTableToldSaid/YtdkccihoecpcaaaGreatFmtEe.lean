/- encodeFloat64 over a buffer, format e: walked. Conditions: finite; not zero; below 1e-6 or from 1e21 on. -/
import Derived.Test.YtdkccihoecpcaaaGreatFmtEf
import Derived.BigRegion
namespace Go.Proofs.YtdkccihoecpcaaaGreatFmt
open Go.RowKit Go
theorem dst_at {eb : Nat} {cur : Array Value} {L : List UInt8} {w : World} (h : Dst eb cur L w) (j : Nat) (hj : j < L.length) : w.cell? ⟨eb, 1 + j, none⟩ = some (.int .u8 ((L[j]'hj).toNat : Int)) ∧ w.frozen? ⟨eb, 1 + j, none⟩ = false := by
  refine ⟨?_, by simp [World.frozen?, h.1]⟩
  rw [Lib.cell_of_heap h.1, putAt_new cur 1 _ j (by rw [h.2.1, bc_len]; have := h.2.2; omega) (by rw [bc_len]; exact hj)]
  simp [Lib.byteCells, hj]
theorem tail_at (P R : List UInt8) (j k : Nat) (h : j = P.length + k) (hk : k < R.length) (hj : j < (P ++ R).length) : (P ++ R)[j]'hj = R[k]'hk := by
  subst h
  rw [List.getElem_append_right (by omega)]
  congr 1
  omega
/-- What stands ahead of the store, written out but for the zero. -/
theorem wrCut {B b eb : Nat} {l : List UInt8} {w : World} (h : StB B b eb l w) (cur : Array Value) (he : EncB w eb b cur) (P : List UInt8) (a b0 c d : UInt8) (hl : l.length + 64 ≤ 140737488355328) (p : Nat) (hp : p = P.length) (w1 : World) (hd : Dst eb cur (P ++ [a, b0, c, d]) w1) (ht : Touch [eb] w w1) :
    Calls Tryz.prog 289 #[.pointer (some ⟨b, 0, none⟩), .slice (some ⟨eb, 1, none⟩) (p + 3) 64] (w1.setCell ⟨eb, 1 + (p + 2), none⟩ (.int .u8 (d.toNat : Int))) (WrB B b eb (l ++ (P ++ [a, b0, d])) (.tuple #[.int .i64 ((P ++ [a, b0, d]).length : Int), .nilIface]) w) := by
  have hL := hd.2.2
  have hs := hd.2.1
  have hlen : (P ++ [a, b0, c, d]).length = p + 4 := by rw [hp]; simp
  have hlen3 : (P ++ [a, b0, d]).length = p + 3 := by rw [hp]; simp
  have hrow := heap_setCell_same w1 eb (1 + (p + 2)) _ _ (.int .u8 (d.toNat : Int)) hd.1
  have hsz : (putAt cur 1 (Lib.byteCells (P ++ [a, b0, c, d]))).size = 65 := by rw [putAt_size _ _ _ (by rw [hs, bc_len]; omega)]; exact hs
  have he1 : EncB (w1.setCell ⟨eb, 1 + (p + 2), none⟩ (.int .u8 (d.toNat : Int))) eb b _ := ⟨hrow, by
    rw [Array.getElem?_setIfInBounds_ne (by omega), putAt_low _ _ _ _ (by rw [hs, bc_len]; omega) (by omega)]
    exact he.w0, by rw [Array.size_setIfInBounds]; exact hsz⟩
  have ht2 : Touch [eb] w (w1.setCell ⟨eb, 1 + (p + 2), none⟩ (.int .u8 (d.toNat : Int))) := by
    rw [setCell_eq_setRow w1 eb _ _ _ _ _ hd.1]
    exact ht.setRow eb (.inl (by simp)) _
  obtain ⟨st, fr⟩ := h.touched ht2 _ he1
  have hw := wrB st (P ++ [a, b0, d]) 64 _ hrow (fun j u hj => by
    have hjl : j < (Lib.byteCells (P ++ [a, b0, d])).length := (List.getElem?_eq_some_iff.1 hj).1
    rw [bc_len, hlen3] at hjl
    by_cases e : j = p + 2
    · subst e
      rw [Array.getElem?_setIfInBounds_self_of_lt (by rw [hsz]; omega), ← hj]
      simp only [Lib.byteCells, List.getElem?_map]
      rw [List.getElem?_append_right (by omega), show p + 2 - P.length = 2 from by omega]
      rfl
    · rw [Array.getElem?_setIfInBounds_ne (by omega), putAt_new cur 1 _ j (by rw [hs, bc_len]; omega) (by rw [bc_len, hlen]; omega), ← hj]
      simp only [Lib.byteCells, List.getElem?_map]
      congr 1
      have e1 : (P ++ [a, b0, c, d])[j]? = (P ++ [a, b0])[j]? := by
        rw [show P ++ [a, b0, c, d] = (P ++ [a, b0]) ++ [c, d] from by simp]
        exact List.getElem?_append_left (by rw [List.length_append]; simp only [List.length_cons, List.length_nil]; omega)
      have e2 : (P ++ [a, b0, d])[j]? = (P ++ [a, b0])[j]? := by
        rw [show P ++ [a, b0, d] = (P ++ [a, b0]) ++ [d] from by simp]
        exact List.getElem?_append_left (by rw [List.length_append]; simp only [List.length_cons, List.length_nil]; omega)
      rw [e1, e2]) (by omega)
  rw [hlen3] at hw
  rw [hlen3]
  exact hw.mono fun _ _ ⟨r1, r2, r3⟩ => ⟨r1, r2, fr.trans r3⟩
set_option maxRecDepth 100000 in
set_option maxHeartbeats 3200000 in
theorem encB_fe0 {B b eb : Nat} {l : List UInt8} {w : World} (h : StB B b eb l w) (s : Bool) (r : Nat) (h0 : 0 < r) (hz : r < 4517329193108106637 ∨ 4921056587992461136 ≤ r) (hr : r ≤ 9218868437227405311) (T : Nat) (ht : Tabs T w) (hl : l.length + 64 ≤ 140737488355328) (P : List UInt8) (a b0 c d : UInt8) (hL : ftE s r = P ++ [a, b0, c, d]) (ga : ((a.toNat : Int) == 101) = false) (Y Z : Nat) (hY : ∀ w, Calls Tryz.prog 53 #[.float .f64 Y] w (Ret (.bool false) w)) (hmax : ∀ w, (Builtin.max_ #[22, 22 ] 22 #[.float .f64 Y, .float .f64 18442240474082181119]).run Tryz.prog w = .ok (.float .f64 Z) w) (hmin : ∀ w, (Builtin.min_ #[22, 22 ] 22 #[.float .f64 Z, .float .f64 9218868437227405311]).run Tryz.prog w = .ok (.float .f64 (Ieee.double.word s r)) w) :
    Calls Tryz.prog 42 #[.pointer (some ⟨eb, 0, none⟩), .float .f64 Y] w (WrB B b eb (l ++ (P ++ [a, b0, c, d])) (.tuple #[]) w) := by
  have c0 := h.c0
  obtain ⟨cur, he⟩ := h.enc
  have HN := Lib.hid hY
  have HA := Lib.hid (abs_any s r (by omega))
  have hd : Dst eb cur [] w := ⟨by rw [putAt_none cur he.size]; exact he.row, he.size, by simp⟩
  have hF := afP (Ieee.double.word s r) eb 101 cur (ftE s r) w (ftoaE s T eb r cur w hd h0 (by rw [d_inf]; omega) ht)
  rw [hL] at hF
  obtain ⟨p, hp⟩ : ∃ p, p = P.length := ⟨_, rfl⟩
  have hpl : (P ++ [a, b0, c, d]).length = p + 4 := by rw [hp]; simp
  have HF := Lib.hid (show Calls Tryz.prog 55 #[.slice (some ⟨eb, 1, none⟩) 0 64, .float .f64 (Ieee.double.word s r), .int .u8 101, .int .i64 (-1), .int .i64 64] w (fun e w' => e = .returned (.slice (some ⟨eb, 1, none⟩) (p + 4) 64) ∧ Dst eb cur (P ++ [a, b0, c, d]) w' ∧ Touch [eb] w w') from hF.mono fun e w' h => by
    unfold FmtPost at h
    rw [hpl] at h
    exact h)
  have o0 := (ord_pos r 0 (by omega) (by omega)).2.2
  have o1 := (ord_pos r 4517329193108106637 (by omega) (by omega)).1
  obtain ⟨_, o2, o3⟩ := ord_pos r 4921056587992461136 (by omega) (by omega)
  have g0 : (FloatKind.f64.format.order r 0 != some .eq) = true := by rw [bne, o0, decide_eq_false (by omega)]; rfl
  have hbad : (FloatKind.f64.format.order r 4517329193108106637 == some .lt) = true ∨ ((FloatKind.f64.format.order r 4517329193108106637 == some .lt) = false ∧ (FloatKind.f64.format.order r 4921056587992461136 == some .gt || FloatKind.f64.format.order r 4921056587992461136 == some .eq) = true) := by
    rw [o1, o2, o3]
    by_cases h : r < 4517329193108106637
    · exact .inl (decide_eq_true h)
    · refine .inr ⟨decide_eq_false h, ?_⟩
      by_cases e : r = 4921056587992461136
      · rw [decide_eq_true e, Bool.or_true]
      · rw [decide_eq_true (show 4921056587992461136 < r by omega), Bool.true_or]
  have hc1 : ∀ w1, Dst eb cur (P ++ [a, b0, c, d]) w1 → w1.cell? ⟨eb, 0, none⟩ = some (.iface 77 (.pointer (some ⟨b, 0, none⟩))) := fun w1 hd1 => by
    simp only [World.cell?, hd1.1]
    rw [putAt_low _ _ _ _ (by have := hd1.2.2; rw [he.size, bc_len]; omega) (by omega)]
    exact he.w0
  have HC1 := Lib.hid hc1
  have HP := Lib.hid hp
  have HPL := Lib.hid hpl
  have HW4 := Lib.hid (show ∀ w1, Dst eb cur (P ++ [a, b0, c, d]) w1 → Touch [eb] w w1 → Calls Tryz.prog 289 #[.pointer (some ⟨b, 0, none⟩), .slice (some ⟨eb, 1, none⟩) (p + 4) 64] w1 (WrB B b eb (l ++ (P ++ [a, b0, c, d])) (.tuple #[.int .i64 ((P ++ [a, b0, c, d]).length : Int), .nilIface]) w) from fun w1 hd ht => by
    have h2 := wrL h cur he (P ++ [a, b0, c, d]) hl w1 hd ht
    rw [hpl] at h2
    rw [hpl]
    exact h2)
  have HS := Lib.hid h
  have HE := Lib.hid he
  clear o0 o1 o2 o3 hz hd he h hF hL hp hpl hc1 hY
  generalize Ieee.double.word s r = X at *
  rcases hbad with g1 | ⟨g1, g2⟩
  · go_enter Tryz.func42, Tryz.ntmps42
    go_wp2_with (go_at_call 53; refine (HN.out _).mono ?_; rintro e w' ⟨rfl, rfl⟩)
    try go_at_call 54
    refine (HA.out _).mono ?_
    rintro e w' ⟨rfl, rfl⟩
    go_wp2_with fail
    try go_at_call 55
    refine HF.out.mono ?_
    rintro e w1 ⟨rfl, hd1, ht1⟩
    have HD1 := Lib.hid hd1
    have HT1 := Lib.hid ht1
    have n1 : (p : Int) + 4 - 3 = (p : Int) + 1 := by omega
    have n2 : (p : Int) + 4 - 2 = (p : Int) + 2 := by omega
    have n3 : (p : Int) + 4 - 1 = (p : Int) + 3 := by omega
    have hz2 : p ≤ 60 := by
      have := hd1.2.2
      rw [HPL.out] at this
      omega
    have q0 := (dst_at hd1 p (by rw [HPL.out]; omega)).1
    have q1 := (dst_at hd1 (p + 1) (by rw [HPL.out]; omega)).1
    have q2 := dst_at hd1 (p + 2) (by rw [HPL.out]; omega)
    have q3 := (dst_at hd1 (p + 3) (by rw [HPL.out]; omega)).1
    rw [tail_at P [a, b0, c, d] p 0 HP.out (by simp) (by rw [HPL.out]; omega)] at q0
    rw [tail_at P [a, b0, c, d] (p + 1) 1 (by rw [HP.out]) (by simp) (by rw [HPL.out]; omega)] at q1
    rw [tail_at P [a, b0, c, d] (p + 2) 2 (by rw [HP.out]) (by simp) (by rw [HPL.out]; omega)] at q2
    rw [tail_at P [a, b0, c, d] (p + 3) 3 (by rw [HP.out]) (by simp) (by rw [HPL.out]; omega)] at q3
    obtain ⟨q2, q2f⟩ := q2
    simp only [List.getElem_cons_zero, List.getElem_cons_succ] at q0 q1 q2 q3
    have c1 := HC1.out w1 hd1
    clear hd1 ht1
    go_wp2_with fail
    try go_at_call 289
    refine (HW4.out w1 HD1.out HT1.out).mono ?_
    rintro e w2 ⟨rfl, hS, hF⟩
    go_wp2
    go_end0
    exact ⟨rfl, hS, hF⟩
  · go_enter Tryz.func42, Tryz.ntmps42
    go_wp2_with (go_at_call 53; refine (HN.out _).mono ?_; rintro e w' ⟨rfl, rfl⟩)
    try go_at_call 54
    refine (HA.out _).mono ?_
    rintro e w' ⟨rfl, rfl⟩
    go_wp2_with fail
    try go_at_call 55
    refine HF.out.mono ?_
    rintro e w1 ⟨rfl, hd1, ht1⟩
    have HD1 := Lib.hid hd1
    have HT1 := Lib.hid ht1
    have n1 : (p : Int) + 4 - 3 = (p : Int) + 1 := by omega
    have n2 : (p : Int) + 4 - 2 = (p : Int) + 2 := by omega
    have n3 : (p : Int) + 4 - 1 = (p : Int) + 3 := by omega
    have hz2 : p ≤ 60 := by
      have := hd1.2.2
      rw [HPL.out] at this
      omega
    have q0 := (dst_at hd1 p (by rw [HPL.out]; omega)).1
    have q1 := (dst_at hd1 (p + 1) (by rw [HPL.out]; omega)).1
    have q2 := dst_at hd1 (p + 2) (by rw [HPL.out]; omega)
    have q3 := (dst_at hd1 (p + 3) (by rw [HPL.out]; omega)).1
    rw [tail_at P [a, b0, c, d] p 0 HP.out (by simp) (by rw [HPL.out]; omega)] at q0
    rw [tail_at P [a, b0, c, d] (p + 1) 1 (by rw [HP.out]) (by simp) (by rw [HPL.out]; omega)] at q1
    rw [tail_at P [a, b0, c, d] (p + 2) 2 (by rw [HP.out]) (by simp) (by rw [HPL.out]; omega)] at q2
    rw [tail_at P [a, b0, c, d] (p + 3) 3 (by rw [HP.out]) (by simp) (by rw [HPL.out]; omega)] at q3
    obtain ⟨q2, q2f⟩ := q2
    simp only [List.getElem_cons_zero, List.getElem_cons_succ] at q0 q1 q2 q3
    have c1 := HC1.out w1 hd1
    clear hd1 ht1
    go_wp2_with fail
    try go_at_call 289
    refine (HW4.out w1 HD1.out HT1.out).mono ?_
    rintro e w2 ⟨rfl, hS, hF⟩
    go_wp2
    go_end0
    exact ⟨rfl, hS, hF⟩
set_option maxRecDepth 100000 in
set_option maxHeartbeats 3200000 in
theorem encB_fe1 {B b eb : Nat} {l : List UInt8} {w : World} (h : StB B b eb l w) (s : Bool) (r : Nat) (h0 : 0 < r) (hz : r < 4517329193108106637 ∨ 4921056587992461136 ≤ r) (hr : r ≤ 9218868437227405311) (T : Nat) (ht : Tabs T w) (hl : l.length + 64 ≤ 140737488355328) (P : List UInt8) (a b0 c d : UInt8) (hL : ftE s r = P ++ [a, b0, c, d]) (ga : ((a.toNat : Int) == 101) = true) (gb : ((b0.toNat : Int) == 45) = false) (Y Z : Nat) (hY : ∀ w, Calls Tryz.prog 53 #[.float .f64 Y] w (Ret (.bool false) w)) (hmax : ∀ w, (Builtin.max_ #[22, 22 ] 22 #[.float .f64 Y, .float .f64 18442240474082181119]).run Tryz.prog w = .ok (.float .f64 Z) w) (hmin : ∀ w, (Builtin.min_ #[22, 22 ] 22 #[.float .f64 Z, .float .f64 9218868437227405311]).run Tryz.prog w = .ok (.float .f64 (Ieee.double.word s r)) w) :
    Calls Tryz.prog 42 #[.pointer (some ⟨eb, 0, none⟩), .float .f64 Y] w (WrB B b eb (l ++ (P ++ [a, b0, c, d])) (.tuple #[]) w) := by
  have c0 := h.c0
  obtain ⟨cur, he⟩ := h.enc
  have HN := Lib.hid hY
  have HA := Lib.hid (abs_any s r (by omega))
  have hd : Dst eb cur [] w := ⟨by rw [putAt_none cur he.size]; exact he.row, he.size, by simp⟩
  have hF := afP (Ieee.double.word s r) eb 101 cur (ftE s r) w (ftoaE s T eb r cur w hd h0 (by rw [d_inf]; omega) ht)
  rw [hL] at hF
  obtain ⟨p, hp⟩ : ∃ p, p = P.length := ⟨_, rfl⟩
  have hpl : (P ++ [a, b0, c, d]).length = p + 4 := by rw [hp]; simp
  have HF := Lib.hid (show Calls Tryz.prog 55 #[.slice (some ⟨eb, 1, none⟩) 0 64, .float .f64 (Ieee.double.word s r), .int .u8 101, .int .i64 (-1), .int .i64 64] w (fun e w' => e = .returned (.slice (some ⟨eb, 1, none⟩) (p + 4) 64) ∧ Dst eb cur (P ++ [a, b0, c, d]) w' ∧ Touch [eb] w w') from hF.mono fun e w' h => by
    unfold FmtPost at h
    rw [hpl] at h
    exact h)
  have o0 := (ord_pos r 0 (by omega) (by omega)).2.2
  have o1 := (ord_pos r 4517329193108106637 (by omega) (by omega)).1
  obtain ⟨_, o2, o3⟩ := ord_pos r 4921056587992461136 (by omega) (by omega)
  have g0 : (FloatKind.f64.format.order r 0 != some .eq) = true := by rw [bne, o0, decide_eq_false (by omega)]; rfl
  have hbad : (FloatKind.f64.format.order r 4517329193108106637 == some .lt) = true ∨ ((FloatKind.f64.format.order r 4517329193108106637 == some .lt) = false ∧ (FloatKind.f64.format.order r 4921056587992461136 == some .gt || FloatKind.f64.format.order r 4921056587992461136 == some .eq) = true) := by
    rw [o1, o2, o3]
    by_cases h : r < 4517329193108106637
    · exact .inl (decide_eq_true h)
    · refine .inr ⟨decide_eq_false h, ?_⟩
      by_cases e : r = 4921056587992461136
      · rw [decide_eq_true e, Bool.or_true]
      · rw [decide_eq_true (show 4921056587992461136 < r by omega), Bool.true_or]
  have hc1 : ∀ w1, Dst eb cur (P ++ [a, b0, c, d]) w1 → w1.cell? ⟨eb, 0, none⟩ = some (.iface 77 (.pointer (some ⟨b, 0, none⟩))) := fun w1 hd1 => by
    simp only [World.cell?, hd1.1]
    rw [putAt_low _ _ _ _ (by have := hd1.2.2; rw [he.size, bc_len]; omega) (by omega)]
    exact he.w0
  have HC1 := Lib.hid hc1
  have HP := Lib.hid hp
  have HPL := Lib.hid hpl
  have HW4 := Lib.hid (show ∀ w1, Dst eb cur (P ++ [a, b0, c, d]) w1 → Touch [eb] w w1 → Calls Tryz.prog 289 #[.pointer (some ⟨b, 0, none⟩), .slice (some ⟨eb, 1, none⟩) (p + 4) 64] w1 (WrB B b eb (l ++ (P ++ [a, b0, c, d])) (.tuple #[.int .i64 ((P ++ [a, b0, c, d]).length : Int), .nilIface]) w) from fun w1 hd ht => by
    have h2 := wrL h cur he (P ++ [a, b0, c, d]) hl w1 hd ht
    rw [hpl] at h2
    rw [hpl]
    exact h2)
  have HS := Lib.hid h
  have HE := Lib.hid he
  clear o0 o1 o2 o3 hz hd he h hF hL hp hpl hc1 hY
  generalize Ieee.double.word s r = X at *
  rcases hbad with g1 | ⟨g1, g2⟩
  · go_enter Tryz.func42, Tryz.ntmps42
    go_wp2_with (go_at_call 53; refine (HN.out _).mono ?_; rintro e w' ⟨rfl, rfl⟩)
    try go_at_call 54
    refine (HA.out _).mono ?_
    rintro e w' ⟨rfl, rfl⟩
    go_wp2_with fail
    try go_at_call 55
    refine HF.out.mono ?_
    rintro e w1 ⟨rfl, hd1, ht1⟩
    have HD1 := Lib.hid hd1
    have HT1 := Lib.hid ht1
    have n1 : (p : Int) + 4 - 3 = (p : Int) + 1 := by omega
    have n2 : (p : Int) + 4 - 2 = (p : Int) + 2 := by omega
    have n3 : (p : Int) + 4 - 1 = (p : Int) + 3 := by omega
    have hz2 : p ≤ 60 := by
      have := hd1.2.2
      rw [HPL.out] at this
      omega
    have q0 := (dst_at hd1 p (by rw [HPL.out]; omega)).1
    have q1 := (dst_at hd1 (p + 1) (by rw [HPL.out]; omega)).1
    have q2 := dst_at hd1 (p + 2) (by rw [HPL.out]; omega)
    have q3 := (dst_at hd1 (p + 3) (by rw [HPL.out]; omega)).1
    rw [tail_at P [a, b0, c, d] p 0 HP.out (by simp) (by rw [HPL.out]; omega)] at q0
    rw [tail_at P [a, b0, c, d] (p + 1) 1 (by rw [HP.out]) (by simp) (by rw [HPL.out]; omega)] at q1
    rw [tail_at P [a, b0, c, d] (p + 2) 2 (by rw [HP.out]) (by simp) (by rw [HPL.out]; omega)] at q2
    rw [tail_at P [a, b0, c, d] (p + 3) 3 (by rw [HP.out]) (by simp) (by rw [HPL.out]; omega)] at q3
    obtain ⟨q2, q2f⟩ := q2
    simp only [List.getElem_cons_zero, List.getElem_cons_succ] at q0 q1 q2 q3
    have c1 := HC1.out w1 hd1
    clear hd1 ht1
    go_wp2_with fail
    try go_at_call 289
    refine (HW4.out w1 HD1.out HT1.out).mono ?_
    rintro e w2 ⟨rfl, hS, hF⟩
    go_wp2
    go_end0
    exact ⟨rfl, hS, hF⟩
  · go_enter Tryz.func42, Tryz.ntmps42
    go_wp2_with (go_at_call 53; refine (HN.out _).mono ?_; rintro e w' ⟨rfl, rfl⟩)
    try go_at_call 54
    refine (HA.out _).mono ?_
    rintro e w' ⟨rfl, rfl⟩
    go_wp2_with fail
    try go_at_call 55
    refine HF.out.mono ?_
    rintro e w1 ⟨rfl, hd1, ht1⟩
    have HD1 := Lib.hid hd1
    have HT1 := Lib.hid ht1
    have n1 : (p : Int) + 4 - 3 = (p : Int) + 1 := by omega
    have n2 : (p : Int) + 4 - 2 = (p : Int) + 2 := by omega
    have n3 : (p : Int) + 4 - 1 = (p : Int) + 3 := by omega
    have hz2 : p ≤ 60 := by
      have := hd1.2.2
      rw [HPL.out] at this
      omega
    have q0 := (dst_at hd1 p (by rw [HPL.out]; omega)).1
    have q1 := (dst_at hd1 (p + 1) (by rw [HPL.out]; omega)).1
    have q2 := dst_at hd1 (p + 2) (by rw [HPL.out]; omega)
    have q3 := (dst_at hd1 (p + 3) (by rw [HPL.out]; omega)).1
    rw [tail_at P [a, b0, c, d] p 0 HP.out (by simp) (by rw [HPL.out]; omega)] at q0
    rw [tail_at P [a, b0, c, d] (p + 1) 1 (by rw [HP.out]) (by simp) (by rw [HPL.out]; omega)] at q1
    rw [tail_at P [a, b0, c, d] (p + 2) 2 (by rw [HP.out]) (by simp) (by rw [HPL.out]; omega)] at q2
    rw [tail_at P [a, b0, c, d] (p + 3) 3 (by rw [HP.out]) (by simp) (by rw [HPL.out]; omega)] at q3
    obtain ⟨q2, q2f⟩ := q2
    simp only [List.getElem_cons_zero, List.getElem_cons_succ] at q0 q1 q2 q3
    have c1 := HC1.out w1 hd1
    clear hd1 ht1
    go_wp2_with fail
    try go_at_call 289
    refine (HW4.out w1 HD1.out HT1.out).mono ?_
    rintro e w2 ⟨rfl, hS, hF⟩
    go_wp2
    go_end0
    exact ⟨rfl, hS, hF⟩
set_option maxRecDepth 100000 in
set_option maxHeartbeats 3200000 in
theorem encB_fe2 {B b eb : Nat} {l : List UInt8} {w : World} (h : StB B b eb l w) (s : Bool) (r : Nat) (h0 : 0 < r) (hz : r < 4517329193108106637 ∨ 4921056587992461136 ≤ r) (hr : r ≤ 9218868437227405311) (T : Nat) (ht : Tabs T w) (hl : l.length + 64 ≤ 140737488355328) (P : List UInt8) (a b0 c d : UInt8) (hL : ftE s r = P ++ [a, b0, c, d]) (ga : ((a.toNat : Int) == 101) = true) (gb : ((b0.toNat : Int) == 45) = true) (gc : ((c.toNat : Int) == 48) = false) (Y Z : Nat) (hY : ∀ w, Calls Tryz.prog 53 #[.float .f64 Y] w (Ret (.bool false) w)) (hmax : ∀ w, (Builtin.max_ #[22, 22 ] 22 #[.float .f64 Y, .float .f64 18442240474082181119]).run Tryz.prog w = .ok (.float .f64 Z) w) (hmin : ∀ w, (Builtin.min_ #[22, 22 ] 22 #[.float .f64 Z, .float .f64 9218868437227405311]).run Tryz.prog w = .ok (.float .f64 (Ieee.double.word s r)) w) :
    Calls Tryz.prog 42 #[.pointer (some ⟨eb, 0, none⟩), .float .f64 Y] w (WrB B b eb (l ++ (P ++ [a, b0, c, d])) (.tuple #[]) w) := by
  have c0 := h.c0
  obtain ⟨cur, he⟩ := h.enc
  have HN := Lib.hid hY
  have HA := Lib.hid (abs_any s r (by omega))
  have hd : Dst eb cur [] w := ⟨by rw [putAt_none cur he.size]; exact he.row, he.size, by simp⟩
  have hF := afP (Ieee.double.word s r) eb 101 cur (ftE s r) w (ftoaE s T eb r cur w hd h0 (by rw [d_inf]; omega) ht)
  rw [hL] at hF
  obtain ⟨p, hp⟩ : ∃ p, p = P.length := ⟨_, rfl⟩
  have hpl : (P ++ [a, b0, c, d]).length = p + 4 := by rw [hp]; simp
  have HF := Lib.hid (show Calls Tryz.prog 55 #[.slice (some ⟨eb, 1, none⟩) 0 64, .float .f64 (Ieee.double.word s r), .int .u8 101, .int .i64 (-1), .int .i64 64] w (fun e w' => e = .returned (.slice (some ⟨eb, 1, none⟩) (p + 4) 64) ∧ Dst eb cur (P ++ [a, b0, c, d]) w' ∧ Touch [eb] w w') from hF.mono fun e w' h => by
    unfold FmtPost at h
    rw [hpl] at h
    exact h)
  have o0 := (ord_pos r 0 (by omega) (by omega)).2.2
  have o1 := (ord_pos r 4517329193108106637 (by omega) (by omega)).1
  obtain ⟨_, o2, o3⟩ := ord_pos r 4921056587992461136 (by omega) (by omega)
  have g0 : (FloatKind.f64.format.order r 0 != some .eq) = true := by rw [bne, o0, decide_eq_false (by omega)]; rfl
  have hbad : (FloatKind.f64.format.order r 4517329193108106637 == some .lt) = true ∨ ((FloatKind.f64.format.order r 4517329193108106637 == some .lt) = false ∧ (FloatKind.f64.format.order r 4921056587992461136 == some .gt || FloatKind.f64.format.order r 4921056587992461136 == some .eq) = true) := by
    rw [o1, o2, o3]
    by_cases h : r < 4517329193108106637
    · exact .inl (decide_eq_true h)
    · refine .inr ⟨decide_eq_false h, ?_⟩
      by_cases e : r = 4921056587992461136
      · rw [decide_eq_true e, Bool.or_true]
      · rw [decide_eq_true (show 4921056587992461136 < r by omega), Bool.true_or]
  have hc1 : ∀ w1, Dst eb cur (P ++ [a, b0, c, d]) w1 → w1.cell? ⟨eb, 0, none⟩ = some (.iface 77 (.pointer (some ⟨b, 0, none⟩))) := fun w1 hd1 => by
    simp only [World.cell?, hd1.1]
    rw [putAt_low _ _ _ _ (by have := hd1.2.2; rw [he.size, bc_len]; omega) (by omega)]
    exact he.w0
  have HC1 := Lib.hid hc1
  have HP := Lib.hid hp
  have HPL := Lib.hid hpl
  have HW4 := Lib.hid (show ∀ w1, Dst eb cur (P ++ [a, b0, c, d]) w1 → Touch [eb] w w1 → Calls Tryz.prog 289 #[.pointer (some ⟨b, 0, none⟩), .slice (some ⟨eb, 1, none⟩) (p + 4) 64] w1 (WrB B b eb (l ++ (P ++ [a, b0, c, d])) (.tuple #[.int .i64 ((P ++ [a, b0, c, d]).length : Int), .nilIface]) w) from fun w1 hd ht => by
    have h2 := wrL h cur he (P ++ [a, b0, c, d]) hl w1 hd ht
    rw [hpl] at h2
    rw [hpl]
    exact h2)
  have HS := Lib.hid h
  have HE := Lib.hid he
  clear o0 o1 o2 o3 hz hd he h hF hL hp hpl hc1 hY
  generalize Ieee.double.word s r = X at *
  rcases hbad with g1 | ⟨g1, g2⟩
  · go_enter Tryz.func42, Tryz.ntmps42
    go_wp2_with (go_at_call 53; refine (HN.out _).mono ?_; rintro e w' ⟨rfl, rfl⟩)
    try go_at_call 54
    refine (HA.out _).mono ?_
    rintro e w' ⟨rfl, rfl⟩
    go_wp2_with fail
    try go_at_call 55
    refine HF.out.mono ?_
    rintro e w1 ⟨rfl, hd1, ht1⟩
    have HD1 := Lib.hid hd1
    have HT1 := Lib.hid ht1
    have n1 : (p : Int) + 4 - 3 = (p : Int) + 1 := by omega
    have n2 : (p : Int) + 4 - 2 = (p : Int) + 2 := by omega
    have n3 : (p : Int) + 4 - 1 = (p : Int) + 3 := by omega
    have hz2 : p ≤ 60 := by
      have := hd1.2.2
      rw [HPL.out] at this
      omega
    have q0 := (dst_at hd1 p (by rw [HPL.out]; omega)).1
    have q1 := (dst_at hd1 (p + 1) (by rw [HPL.out]; omega)).1
    have q2 := dst_at hd1 (p + 2) (by rw [HPL.out]; omega)
    have q3 := (dst_at hd1 (p + 3) (by rw [HPL.out]; omega)).1
    rw [tail_at P [a, b0, c, d] p 0 HP.out (by simp) (by rw [HPL.out]; omega)] at q0
    rw [tail_at P [a, b0, c, d] (p + 1) 1 (by rw [HP.out]) (by simp) (by rw [HPL.out]; omega)] at q1
    rw [tail_at P [a, b0, c, d] (p + 2) 2 (by rw [HP.out]) (by simp) (by rw [HPL.out]; omega)] at q2
    rw [tail_at P [a, b0, c, d] (p + 3) 3 (by rw [HP.out]) (by simp) (by rw [HPL.out]; omega)] at q3
    obtain ⟨q2, q2f⟩ := q2
    simp only [List.getElem_cons_zero, List.getElem_cons_succ] at q0 q1 q2 q3
    have c1 := HC1.out w1 hd1
    clear hd1 ht1
    go_wp2_with fail
    try go_at_call 289
    refine (HW4.out w1 HD1.out HT1.out).mono ?_
    rintro e w2 ⟨rfl, hS, hF⟩
    go_wp2
    go_end0
    exact ⟨rfl, hS, hF⟩
  · go_enter Tryz.func42, Tryz.ntmps42
    go_wp2_with (go_at_call 53; refine (HN.out _).mono ?_; rintro e w' ⟨rfl, rfl⟩)
    try go_at_call 54
    refine (HA.out _).mono ?_
    rintro e w' ⟨rfl, rfl⟩
    go_wp2_with fail
    try go_at_call 55
    refine HF.out.mono ?_
    rintro e w1 ⟨rfl, hd1, ht1⟩
    have HD1 := Lib.hid hd1
    have HT1 := Lib.hid ht1
    have n1 : (p : Int) + 4 - 3 = (p : Int) + 1 := by omega
    have n2 : (p : Int) + 4 - 2 = (p : Int) + 2 := by omega
    have n3 : (p : Int) + 4 - 1 = (p : Int) + 3 := by omega
    have hz2 : p ≤ 60 := by
      have := hd1.2.2
      rw [HPL.out] at this
      omega
    have q0 := (dst_at hd1 p (by rw [HPL.out]; omega)).1
    have q1 := (dst_at hd1 (p + 1) (by rw [HPL.out]; omega)).1
    have q2 := dst_at hd1 (p + 2) (by rw [HPL.out]; omega)
    have q3 := (dst_at hd1 (p + 3) (by rw [HPL.out]; omega)).1
    rw [tail_at P [a, b0, c, d] p 0 HP.out (by simp) (by rw [HPL.out]; omega)] at q0
    rw [tail_at P [a, b0, c, d] (p + 1) 1 (by rw [HP.out]) (by simp) (by rw [HPL.out]; omega)] at q1
    rw [tail_at P [a, b0, c, d] (p + 2) 2 (by rw [HP.out]) (by simp) (by rw [HPL.out]; omega)] at q2
    rw [tail_at P [a, b0, c, d] (p + 3) 3 (by rw [HP.out]) (by simp) (by rw [HPL.out]; omega)] at q3
    obtain ⟨q2, q2f⟩ := q2
    simp only [List.getElem_cons_zero, List.getElem_cons_succ] at q0 q1 q2 q3
    have c1 := HC1.out w1 hd1
    clear hd1 ht1
    go_wp2_with fail
    try go_at_call 289
    refine (HW4.out w1 HD1.out HT1.out).mono ?_
    rintro e w2 ⟨rfl, hS, hF⟩
    go_wp2
    go_end0
    exact ⟨rfl, hS, hF⟩
set_option maxRecDepth 100000 in
set_option maxHeartbeats 3200000 in
theorem encB_fe3 {B b eb : Nat} {l : List UInt8} {w : World} (h : StB B b eb l w) (s : Bool) (r : Nat) (h0 : 0 < r) (hz : r < 4517329193108106637 ∨ 4921056587992461136 ≤ r) (hr : r ≤ 9218868437227405311) (T : Nat) (ht : Tabs T w) (hl : l.length + 64 ≤ 140737488355328) (P : List UInt8) (a b0 c d : UInt8) (hL : ftE s r = P ++ [a, b0, c, d]) (ga : ((a.toNat : Int) == 101) = true) (gb : ((b0.toNat : Int) == 45) = true) (gc : ((c.toNat : Int) == 48) = true) (Y Z : Nat) (hY : ∀ w, Calls Tryz.prog 53 #[.float .f64 Y] w (Ret (.bool false) w)) (hmax : ∀ w, (Builtin.max_ #[22, 22 ] 22 #[.float .f64 Y, .float .f64 18442240474082181119]).run Tryz.prog w = .ok (.float .f64 Z) w) (hmin : ∀ w, (Builtin.min_ #[22, 22 ] 22 #[.float .f64 Z, .float .f64 9218868437227405311]).run Tryz.prog w = .ok (.float .f64 (Ieee.double.word s r)) w) :
    Calls Tryz.prog 42 #[.pointer (some ⟨eb, 0, none⟩), .float .f64 Y] w (WrB B b eb (l ++ (P ++ [a, b0, d])) (.tuple #[]) w) := by
  have c0 := h.c0
  obtain ⟨cur, he⟩ := h.enc
  have HN := Lib.hid hY
  have HA := Lib.hid (abs_any s r (by omega))
  have hd : Dst eb cur [] w := ⟨by rw [putAt_none cur he.size]; exact he.row, he.size, by simp⟩
  have hF := afP (Ieee.double.word s r) eb 101 cur (ftE s r) w (ftoaE s T eb r cur w hd h0 (by rw [d_inf]; omega) ht)
  rw [hL] at hF
  obtain ⟨p, hp⟩ : ∃ p, p = P.length := ⟨_, rfl⟩
  have hpl : (P ++ [a, b0, c, d]).length = p + 4 := by rw [hp]; simp
  have HF := Lib.hid (show Calls Tryz.prog 55 #[.slice (some ⟨eb, 1, none⟩) 0 64, .float .f64 (Ieee.double.word s r), .int .u8 101, .int .i64 (-1), .int .i64 64] w (fun e w' => e = .returned (.slice (some ⟨eb, 1, none⟩) (p + 4) 64) ∧ Dst eb cur (P ++ [a, b0, c, d]) w' ∧ Touch [eb] w w') from hF.mono fun e w' h => by
    unfold FmtPost at h
    rw [hpl] at h
    exact h)
  have o0 := (ord_pos r 0 (by omega) (by omega)).2.2
  have o1 := (ord_pos r 4517329193108106637 (by omega) (by omega)).1
  obtain ⟨_, o2, o3⟩ := ord_pos r 4921056587992461136 (by omega) (by omega)
  have g0 : (FloatKind.f64.format.order r 0 != some .eq) = true := by rw [bne, o0, decide_eq_false (by omega)]; rfl
  have hbad : (FloatKind.f64.format.order r 4517329193108106637 == some .lt) = true ∨ ((FloatKind.f64.format.order r 4517329193108106637 == some .lt) = false ∧ (FloatKind.f64.format.order r 4921056587992461136 == some .gt || FloatKind.f64.format.order r 4921056587992461136 == some .eq) = true) := by
    rw [o1, o2, o3]
    by_cases h : r < 4517329193108106637
    · exact .inl (decide_eq_true h)
    · refine .inr ⟨decide_eq_false h, ?_⟩
      by_cases e : r = 4921056587992461136
      · rw [decide_eq_true e, Bool.or_true]
      · rw [decide_eq_true (show 4921056587992461136 < r by omega), Bool.true_or]
  have hc1 : ∀ w1, Dst eb cur (P ++ [a, b0, c, d]) w1 → w1.cell? ⟨eb, 0, none⟩ = some (.iface 77 (.pointer (some ⟨b, 0, none⟩))) := fun w1 hd1 => by
    simp only [World.cell?, hd1.1]
    rw [putAt_low _ _ _ _ (by have := hd1.2.2; rw [he.size, bc_len]; omega) (by omega)]
    exact he.w0
  have HC1 := Lib.hid hc1
  have HP := Lib.hid hp
  have HPL := Lib.hid hpl
  have HW4 := Lib.hid (show ∀ w1, Dst eb cur (P ++ [a, b0, c, d]) w1 → Touch [eb] w w1 → Calls Tryz.prog 289 #[.pointer (some ⟨b, 0, none⟩), .slice (some ⟨eb, 1, none⟩) (p + 4) 64] w1 (WrB B b eb (l ++ (P ++ [a, b0, c, d])) (.tuple #[.int .i64 ((P ++ [a, b0, c, d]).length : Int), .nilIface]) w) from fun w1 hd ht => by
    have h2 := wrL h cur he (P ++ [a, b0, c, d]) hl w1 hd ht
    rw [hpl] at h2
    rw [hpl]
    exact h2)
  have HS := Lib.hid h
  have HE := Lib.hid he
  clear o0 o1 o2 o3 hz hd he h hF hL hp hpl hc1 hY
  generalize Ieee.double.word s r = X at *
  rcases hbad with g1 | ⟨g1, g2⟩
  · go_enter Tryz.func42, Tryz.ntmps42
    go_wp2_with (go_at_call 53; refine (HN.out _).mono ?_; rintro e w' ⟨rfl, rfl⟩)
    try go_at_call 54
    refine (HA.out _).mono ?_
    rintro e w' ⟨rfl, rfl⟩
    go_wp2_with fail
    try go_at_call 55
    refine HF.out.mono ?_
    rintro e w1 ⟨rfl, hd1, ht1⟩
    have HD1 := Lib.hid hd1
    have HT1 := Lib.hid ht1
    have n1 : (p : Int) + 4 - 3 = (p : Int) + 1 := by omega
    have n2 : (p : Int) + 4 - 2 = (p : Int) + 2 := by omega
    have n3 : (p : Int) + 4 - 1 = (p : Int) + 3 := by omega
    have hz2 : p ≤ 60 := by
      have := hd1.2.2
      rw [HPL.out] at this
      omega
    have q0 := (dst_at hd1 p (by rw [HPL.out]; omega)).1
    have q1 := (dst_at hd1 (p + 1) (by rw [HPL.out]; omega)).1
    have q2 := dst_at hd1 (p + 2) (by rw [HPL.out]; omega)
    have q3 := (dst_at hd1 (p + 3) (by rw [HPL.out]; omega)).1
    rw [tail_at P [a, b0, c, d] p 0 HP.out (by simp) (by rw [HPL.out]; omega)] at q0
    rw [tail_at P [a, b0, c, d] (p + 1) 1 (by rw [HP.out]) (by simp) (by rw [HPL.out]; omega)] at q1
    rw [tail_at P [a, b0, c, d] (p + 2) 2 (by rw [HP.out]) (by simp) (by rw [HPL.out]; omega)] at q2
    rw [tail_at P [a, b0, c, d] (p + 3) 3 (by rw [HP.out]) (by simp) (by rw [HPL.out]; omega)] at q3
    obtain ⟨q2, q2f⟩ := q2
    simp only [List.getElem_cons_zero, List.getElem_cons_succ] at q0 q1 q2 q3
    have c1 := HC1.out w1 hd1
    clear hd1 ht1
    go_wp2_with fail
    try go_at_call 289
    refine (wrCut HS.out cur HE.out P a b0 c d hl p HP.out w1 HD1.out HT1.out).mono ?_
    rintro e w2 ⟨rfl, hS, hF⟩
    go_wp2
    go_end0
    exact ⟨rfl, hS, hF⟩
  · go_enter Tryz.func42, Tryz.ntmps42
    go_wp2_with (go_at_call 53; refine (HN.out _).mono ?_; rintro e w' ⟨rfl, rfl⟩)
    try go_at_call 54
    refine (HA.out _).mono ?_
    rintro e w' ⟨rfl, rfl⟩
    go_wp2_with fail
    try go_at_call 55
    refine HF.out.mono ?_
    rintro e w1 ⟨rfl, hd1, ht1⟩
    have HD1 := Lib.hid hd1
    have HT1 := Lib.hid ht1
    have n1 : (p : Int) + 4 - 3 = (p : Int) + 1 := by omega
    have n2 : (p : Int) + 4 - 2 = (p : Int) + 2 := by omega
    have n3 : (p : Int) + 4 - 1 = (p : Int) + 3 := by omega
    have hz2 : p ≤ 60 := by
      have := hd1.2.2
      rw [HPL.out] at this
      omega
    have q0 := (dst_at hd1 p (by rw [HPL.out]; omega)).1
    have q1 := (dst_at hd1 (p + 1) (by rw [HPL.out]; omega)).1
    have q2 := dst_at hd1 (p + 2) (by rw [HPL.out]; omega)
    have q3 := (dst_at hd1 (p + 3) (by rw [HPL.out]; omega)).1
    rw [tail_at P [a, b0, c, d] p 0 HP.out (by simp) (by rw [HPL.out]; omega)] at q0
    rw [tail_at P [a, b0, c, d] (p + 1) 1 (by rw [HP.out]) (by simp) (by rw [HPL.out]; omega)] at q1
    rw [tail_at P [a, b0, c, d] (p + 2) 2 (by rw [HP.out]) (by simp) (by rw [HPL.out]; omega)] at q2
    rw [tail_at P [a, b0, c, d] (p + 3) 3 (by rw [HP.out]) (by simp) (by rw [HPL.out]; omega)] at q3
    obtain ⟨q2, q2f⟩ := q2
    simp only [List.getElem_cons_zero, List.getElem_cons_succ] at q0 q1 q2 q3
    have c1 := HC1.out w1 hd1
    clear hd1 ht1
    go_wp2_with fail
    try go_at_call 289
    refine (wrCut HS.out cur HE.out P a b0 c d hl p HP.out w1 HD1.out HT1.out).mono ?_
    rintro e w2 ⟨rfl, hS, hF⟩
    go_wp2
    go_end0
    exact ⟨rfl, hS, hF⟩
end Go.Proofs.YtdkccihoecpcaaaGreatFmt
