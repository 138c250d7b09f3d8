/- The small functions round the shortest digits, walked: logarithms, rounding, the scaler laid. Conditions: the table of powers of ten lies as the row lists it. -/
import Derived.Test.YtdkccihoecpcaaaGreatFmtSc
import Derived.Lib.LaidU8
namespace Go.Proofs.YtdkccihoecpcaaaGreatFmt
open Go.RowKit Go
set_option maxRecDepth 100000 in
theorem skew_any (x : Int) (h1 : -2000 ≤ x) (h2 : x ≤ 2000) (w : World) : Calls Tryz.prog 155 #[.int .i64 x] w (Ret (.int .i64 (skw x)) w) := by
  go_enter Tryz.func155, Tryz.ntmps155
  go_wp2
  go_ret
  exact ⟨by first | rfl | (unfold skw; rfl), rfl⟩
set_option maxRecDepth 100000 in
theorem l10_any (x : Int) (h1 : -2000 ≤ x) (h2 : x ≤ 2000) (w : World) : Calls Tryz.prog 121 #[.int .i64 x] w (Ret (.int .i64 (l10 x)) w) := by
  go_enter Tryz.func121, Tryz.ntmps121
  go_wp2
  go_ret
  exact ⟨by first | rfl | (unfold l10; rfl), rfl⟩
set_option maxRecDepth 100000 in
theorem l2t_any (x : Int) (h1 : -2000 ≤ x) (h2 : x ≤ 2000) (w : World) : Calls Tryz.prog 157 #[.int .i64 x] w (Ret (.int .i64 (l2t x)) w) := by
  go_enter Tryz.func157, Tryz.ntmps157
  go_wp2
  go_ret
  exact ⟨by first | rfl | (unfold l2t; rfl), rfl⟩
set_option maxRecDepth 100000 in
theorem ceil_any (u : Nat) (h : u ≤ 1152921504606846976) (w : World) : Calls Tryz.prog 160 #[.int .u64 (u : Int)] w (Ret (.int .u64 (((u + 3) / 4 : Nat) : Int)) w) := by
  have e : (((u + 3) / 4 : Nat) : Int) = ((u : Int) + 3) / 4 := by omega
  rw [e]
  clear e
  have e2 : IntKind.u64.wrap ((u : Int) + 3) = (u : Int) + 3 := u64_wrap _ (by omega)
  go_enter Tryz.func160, Tryz.ntmps160
  go_wp2
  go_ret
  exact ⟨rfl, rfl⟩
set_option maxRecDepth 100000 in
theorem floor_any (u : Nat) (h : u ≤ 1152921504606846976) (w : World) : Calls Tryz.prog 161 #[.int .u64 (u : Int)] w (Ret (.int .u64 ((u / 4 : Nat) : Int)) w) := by
  have e : ((u / 4 : Nat) : Int) = (u : Int) / 4 := by omega
  rw [e]
  clear e
  have e2 : IntKind.u64.wrap ((u : Int) + 0) = (u : Int) := by rw [u64_wrap _ (by omega)]; omega
  go_enter Tryz.func161, Tryz.ntmps161
  go_wp2
  go_ret
  exact ⟨rfl, rfl⟩
theorem and_one (a : Nat) (h : a < 18446744073709551616) : bits .and .u64 (a : Int) 1 = ((a % 2 : Nat) : Int) := by
  have e := bits_and_u64_nat a 1 h (by omega)
  rw [Nat.and_one_is_mod] at e
  exact e
set_option maxRecDepth 100000 in
theorem round_any (u : Nat) (h : u ≤ 1152921504606846976) (w : World) : Calls Tryz.prog 162 #[.int .u64 (u : Int)] w (Ret (.int .u64 (((u + 1 + u / 4 % 2) / 4 : Nat) : Int)) w) := by
  have e0 : bits .and .u64 ((u : Int) / 4) 1 = ((u / 4 % 2 : Nat) : Int) := by
    rw [show (u : Int) / 4 = ((u / 4 : Nat) : Int) from by omega]
    exact and_one _ (by omega)
  have e1 : IntKind.u64.wrap ((u : Int) + 1) = (u : Int) + 1 := u64_wrap _ (by omega)
  obtain ⟨c, hc⟩ : ∃ c, u / 4 % 2 = c := ⟨_, rfl⟩
  have hc1 : c ≤ 1 := by omega
  rw [hc] at e0 ⊢
  have e2 : IntKind.u64.wrap ((u : Int) + 1 + (c : Int)) = (u : Int) + 1 + (c : Int) := u64_wrap _ (by omega)
  have e : (((u + 1 + c) / 4 : Nat) : Int) = ((u : Int) + 1 + (c : Int)) / 4 := by omega
  rw [e]
  clear e hc
  go_enter Tryz.func162, Tryz.ntmps162
  go_wp2
  go_ret
  exact ⟨rfl, rfl⟩
set_option maxRecDepth 100000 in
theorem nudge_any (u : Nat) (d r : Int) (hr : (u : Int) + d = r) (h0 : 0 ≤ r) (h1 : u ≤ 1152921504606846976) (hd : d = 0 ∨ d = 1 ∨ d = -1) (w : World) : Calls Tryz.prog 159 #[.int .u64 (u : Int), .int .i64 d] w (Ret (.int .u64 r) w) := by
  subst hr
  have e2 : IntKind.u64.wrap ((u : Int) + IntKind.u64.wrap d) = (u : Int) + d := by rw [IntKind.wrap_u64, IntKind.wrap_u64]; omega
  have HE := Lib.hid e2
  clear hd
  go_enter Tryz.func159, Tryz.ntmps159
  go_wp2
  go_ret
  first | exact ⟨rfl, rfl⟩ | exact ⟨ret_u64 HE.out, rfl⟩
/-- The table of powers of ten, below B. -/
def P10 (B : Nat) (w : World) : Prop := (∀ i, i < 696 → w.cell? ⟨11, i * 2, none⟩ = some (.int .u64 (tHi i : Int)) ∧ w.cell? ⟨11, i * 2 + 1, none⟩ = some (.int .u64 (tLo i : Int))) ∧ 11 < B ∧ B ≤ w.heap.size
theorem p10_below {B : Nat} {w w' : World} (h : P10 B w) (hb : Below B w w') : P10 B w' :=
  ⟨fun i hi => by
    have := h.1 i hi
    rw [hb.cell (p := ⟨11, i * 2, none⟩) h.2.1, hb.cell (p := ⟨11, i * 2 + 1, none⟩) h.2.1]
    exact this, h.2.1, Nat.le_trans h.2.2 hb.size⟩
theorem p10_at {B : Nat} {w : World} (h : P10 B w) : P10 w.heap.size w := ⟨h.1, Nat.lt_of_lt_of_le h.2.1 h.2.2, Nat.le_refl _⟩
/-- The scaler as it is left. -/
def PrePost (b : Nat) (t : TypeId) (hi lo s : Nat) (w : World) (e : Ending) (w' : World) : Prop := e = .returned (.tuple #[]) ∧ w'.heap[b]? = some (.cells #[.int .u64 (hi : Int), .int .u64 (lo : Int), .int .i64 (s : Int)] t (0, 0)) ∧ Touch [b] w w'
set_option maxRecDepth 100000 in
set_option maxHeartbeats 1600000 in
theorem prescale_any (B b i s : Nat) (e p lp : Int) (w : World) (v0 v1 v2 : Value) (t : TypeId) (hrow : w.heap[b]? = some (.cells #[v0, v1, v2] t (0, 0))) (hB : B ≤ b) (H : P10 B w)
    (he : -2000 ≤ e ∧ e ≤ 2000) (hp : -348 ≤ p ∧ p < 348) (hlp : -2000 ≤ lp ∧ lp ≤ 2000) (hi : p + 348 = (i : Int)) (hs : -(e + lp + 3) = (s : Int)) :
    Calls Tryz.prog 156 #[.pointer (some ⟨b, 0, none⟩), .int .i64 e, .int .i64 p, .int .i64 lp] w (PrePost b t (tHi i) (tLo i) s w) := by
  have hi2 : i < 696 := by omega
  obtain ⟨g0, g1⟩ := H.1 i hi2
  have hne : 11 ≠ b := by have := H.2.1; omega
  have c0 : w.cell? ⟨b, 0, none⟩ = some v0 := by simp [World.cell?, hrow]
  have c1 : w.cell? ⟨b, 1, none⟩ = some v1 := by simp [World.cell?, hrow]
  have c2 : w.cell? ⟨b, 2, none⟩ = some v2 := by simp [World.cell?, hrow]
  have f0 : ∀ j, w.frozen? ⟨b, j, none⟩ = false := fun j => by simp [World.frozen?, hrow]
  have HR := Lib.hid hrow
  obtain ⟨he1, he2⟩ := he
  obtain ⟨hl1, hl2⟩ := hlp
  clear H hrow hB
  go_enter Tryz.func156, Tryz.ntmps156
  go_wp2
  go_end0
  refine ⟨rfl, ?_, (((Touch.refl _ _).setCell ⟨b, 0, none⟩ (.inl (by simp)) _).setCell ⟨b, 1, none⟩ (.inl (by simp)) _).setCell ⟨b, 2, none⟩ (.inl (by simp)) _⟩
  have h0 := HR.out
  have h1 := Lib.heap_setCell_same (i := 0) (v := .int .u64 (tHi i : Int)) h0
  have h2 := Lib.heap_setCell_same (i := 1) (v := .int .u64 (tLo i : Int)) h1
  have h3 := Lib.heap_setCell_same (i := 2) (v := .int .i64 (s : Int)) h2
  exact h3
end Go.Proofs.YtdkccihoecpcaaaGreatFmt
