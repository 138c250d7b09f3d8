/- encodeFloat64 over a buffer, format f: walked. Conditions: finite; below 1e21; zero or from 1e-6 on. -/
import Derived.Test.YtdkccihoecpcaaaGreatFmtAf
import Derived.Test.YtdkccihoecpcaaaGreatFmtBldB
import Derived.Test.YtdkccihoecpcaaaGreatFmtMm
namespace Go.Proofs.YtdkccihoecpcaaaGreatFmt
open Go.RowKit Go
theorem putAt_none (cur : Array Value) (_h : cur.size = 65) : putAt cur 1 (Lib.byteCells []) = cur := by
  unfold putAt
  apply Array.ext'
  simp [Lib.byteCells]
  rw [← List.drop_one, List.take_append_drop]
/-- What the encoder's own buffer holds goes to the writer. -/
theorem wrL {B b eb : Nat} {l : List UInt8} {w : World} (h : StB B b eb l w) (cur : Array Value) (he : EncB w eb b cur) (L : List UInt8) (hl : l.length + 64 ≤ 140737488355328) (w1 : World) (hd : Dst eb cur L w1) (ht : Touch [eb] w w1) :
    Calls Tryz.prog 289 #[.pointer (some ⟨b, 0, none⟩), .slice (some ⟨eb, 1, none⟩) L.length 64] w1 (WrB B b eb (l ++ L) (.tuple #[.int .i64 L.length, .nilIface]) w) := by
  have hL := hd.2.2
  have he1 : EncB w1 eb b (putAt cur 1 (Lib.byteCells L)) := ⟨hd.1, by rw [putAt_low _ _ _ _ (by rw [he.size, bc_len]; omega) (by omega)]; exact he.w0, by rw [putAt_size _ _ _ (by rw [he.size, bc_len]; omega)]; exact he.size⟩
  obtain ⟨st, fr⟩ := h.touched ht _ he1
  exact (wrB st L 64 _ hd.1 (fun j u hj => by
    have hjl : j < (Lib.byteCells L).length := (List.getElem?_eq_some_iff.1 hj).1
    rw [← hj]
    exact putAt_new cur 1 _ j (by rw [he.size, bc_len]; omega) hjl) (by omega)).mono fun _ _ ⟨r1, r2, r3⟩ => ⟨r1, r2, fr.trans r3⟩
theorem ord_pos (r q : Nat) (hr : r ≤ 9218868437227405312) (hq : q ≤ 9218868437227405312) : (FloatKind.f64.format.order r q == some .lt) = decide (r < q) ∧ (FloatKind.f64.format.order r q == some .gt) = decide (q < r) ∧ (FloatKind.f64.format.order r q == some .eq) = decide (r = q) := by
  obtain ⟨a1, a2, a3⟩ := ord_pair false false r q hr hq
  rw [word_false, word_false] at a1 a2 a3
  rw [a1, a2, a3]
  simp [sv]
  omega
set_option maxRecDepth 100000 in
set_option maxHeartbeats 1600000 in
theorem encB_ff {B b eb : Nat} {l : List UInt8} {w : World} (h : StB B b eb l w) (s : Bool) (r : Nat) (hz : r = 0 ∨ 4517329193108106637 ≤ r) (hr : r < 4921056587992461136) (hp : r = 0 ∨ (-30 ≤ fP r ∧ fP r ≤ 30)) (T : Nat) (ht : Tabs T w) (hl : l.length + 64 ≤ 140737488355328) :
    Calls Tryz.prog 42 #[.pointer (some ⟨eb, 0, none⟩), .float .f64 (Ieee.double.word s r)] w (WrB B b eb (l ++ ftF s r) (.tuple #[]) w) := by
  have c0 := h.c0
  obtain ⟨cur, he⟩ := h.enc
  have HN := Lib.hid (isNaN_any s r (by omega))
  rw [show decide (9218868437227405312 < r) = false from decide_eq_false (by omega)] at HN
  have HA := Lib.hid (abs_any s r (by omega))
  have hmax := run_maxf s r (by omega) 22 #[22, 22 ]
  have hmin := run_minf s r (by omega) 22 #[22, 22 ]
  have hd : Dst eb cur [] w := ⟨by rw [putAt_none cur he.size]; exact he.row, he.size, by simp⟩
  have HF := Lib.hid (afP (Ieee.double.word s r) eb 102 cur (ftF s r) w (ftoaF s T eb r cur w hd (by rw [d_inf]; omega) hp ht))
  have HW := Lib.hid (wrL h cur he (ftF s r) hl)
  have o1 := (ord_pos r 4517329193108106637 (by omega) (by omega)).1
  obtain ⟨_, o2, o3⟩ := ord_pos r 4921056587992461136 (by omega) (by omega)
  rw [decide_eq_false (by omega)] at o2 o3
  have o0 := (ord_pos r 0 (by omega) (by omega)).2.2
  have hbad : (FloatKind.f64.format.order r 0 != some .eq) = false ∨ ((FloatKind.f64.format.order r 0 != some .eq) = true ∧ (FloatKind.f64.format.order r 4517329193108106637 == some .lt) = false) := by
    rw [bne, o0, o1]
    by_cases h : r = 0
    · subst h; exact .inl rfl
    · have h2 := hz.resolve_left h
      exact .inr ⟨by rw [decide_eq_false h]; rfl, decide_eq_false (by omega)⟩
  have hc1 : ∀ w1, Dst eb cur (ftF s r) w1 → w1.cell? ⟨eb, 0, none⟩ = some (.iface 77 (.pointer (some ⟨b, 0, none⟩))) := fun w1 hd1 => by
    simp only [World.cell?, hd1.1]
    rw [putAt_low _ _ _ _ (by have := hd1.2.2; rw [he.size, bc_len]; omega) (by omega)]
    exact he.w0
  have HC1 := Lib.hid hc1
  clear o0 o1 hz hd he h hc1
  generalize Ieee.double.word s r = X at *
  generalize ftF s r = L at *
  rcases hbad with g0 | ⟨g0, g1⟩
  · go_enter Tryz.func42, Tryz.ntmps42
    go_wp2_with (go_at_call 53; refine (HN.out _).mono ?_; rintro e w' ⟨rfl, rfl⟩)
    try go_at_call 54
    refine (HA.out _).mono ?_
    rintro e w' ⟨rfl, rfl⟩
    go_wp2_with fail
    try go_at_call 55
    refine HF.out.mono ?_
    rintro e w1 ⟨rfl, hd1, ht1⟩
    have HD1 := Lib.hid hd1
    have HT1 := Lib.hid ht1
    have c1 := HC1.out w1 hd1
    clear hd1 ht1
    go_wp2_with fail
    try go_at_call 289
    refine (HW.out _ HD1.out HT1.out).mono ?_
    rintro e w2 ⟨rfl, hS, hF⟩
    go_wp2
    go_end0
    exact ⟨rfl, hS, hF⟩
  · go_enter Tryz.func42, Tryz.ntmps42
    go_wp2_with (go_at_call 53; refine (HN.out _).mono ?_; rintro e w' ⟨rfl, rfl⟩)
    try go_at_call 54
    refine (HA.out _).mono ?_
    rintro e w' ⟨rfl, rfl⟩
    go_wp2_with fail
    try go_at_call 55
    refine HF.out.mono ?_
    rintro e w1 ⟨rfl, hd1, ht1⟩
    have HD1 := Lib.hid hd1
    have HT1 := Lib.hid ht1
    have c1 := HC1.out w1 hd1
    clear hd1 ht1
    go_wp2_with fail
    try go_at_call 289
    refine (HW.out _ HD1.out HT1.out).mono ?_
    rintro e w2 ⟨rfl, hS, hF⟩
    go_wp2
    go_end0
    exact ⟨rfl, hS, hF⟩
end Go.Proofs.YtdkccihoecpcaaaGreatFmt
