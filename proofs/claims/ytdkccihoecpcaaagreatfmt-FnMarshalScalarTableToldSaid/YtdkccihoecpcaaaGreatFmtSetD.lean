/- The digits laid in the buffer, the zeros at their end passed over: walked. Conditions: the table of powers of ten lies as the row lists it. -/
import Derived.Test.YtdkccihoecpcaaaGreatFmtDst
import Derived.Test.YtdkccihoecpcaaaGreatFmtIntT
namespace Go.Proofs.YtdkccihoecpcaaaGreatFmt
open Go.RowKit Go.Sort Go
def enc8 (b : UInt8) : Value := .int .u8 (b.toNat : Int)
theorem holds_zero {w : World} {bb : Nat} {t : TypeId} (h : w.heap[bb]? = some (.cells (Array.replicate 32 (.int .u8 0)) t (0, 0))) (n : Nat) (hn : n ≤ 32) : Holds (fun (b : UInt8) => Value.int .u8 (b.toNat : Int)) w bb 0 (Array.replicate n 0) := by
  intro j hj
  rw [Array.size_replicate] at hj
  have hj2 : j < 32 := by omega
  refine ⟨?_, by simp [World.frozen?, h]⟩
  rw [Nat.zero_add, Lib.cell_of_heap h]
  simp [hj, hj2]
theorem touch_put (w : World) (bb k : Nat) (dk : Array UInt8) : Touch [bb] w ((putRow (fun (b : UInt8) => Value.int .u8 (b.toNat : Int)) w bb 0 dk).drewN k) := by
  refine ⟨rfl, rfl, rfl, Nat.le_of_eq (size_putRow _ w bb 0 dk).symm, fun j _ hn => ?_⟩
  show (w.heap.modify bb _)[j]? = _
  have hne : bb ≠ j := fun e => hn (by simp [e])
  rw [Array.getElem?_modify, if_neg hne]
set_option maxRecDepth 100000 in
theorem run_slice32 (bb n : Nat) (hn : n ≤ 32) (W : World) : (Instr.slice 29 (.slice (some ⟨bb, 0, none⟩) 32 32) none (some (.int .i64 (n : Int))) none).run Tryz.prog W = .ok (.slice (some ⟨bb, 0, none⟩) n 32) W := by
  rw [run_slice_h (P := Tryz.prog) W 29 (some ⟨bb, 0, none⟩) 32 32 Tryz.underlying29 .i64 (n : Int) (by omega) (by omega)]
  have hsz : ∀ W, (sizeOf (Tryz.prog.elem 29)).run Tryz.prog W = .ok 1 W := fun W => by kernel_rfl
  rw [hsz]
  simp [sliced, Result.andThen, Addr.add]
/-- The digits D lie in the buffer bb. -/
def Digs32 (bb : Nat) (D : List UInt8) (w : World) : Prop := ∀ j (h : j < D.length), w.cell? ⟨bb, j, none⟩ = some (.int .u8 ((D[j]'h).toNat : Int))
theorem trim_self {l : List UInt8} (h : l = [] ∨ ∃ m c, l = m ++ [c] ∧ c ≠ 48) : trim l = l := by
  rcases h with rfl | ⟨m, c, rfl, hc⟩
  · rfl
  · unfold trim
    rw [List.reverse_append, List.reverse_singleton, List.singleton_append, List.dropWhile_cons_of_neg (by simpa using hc)]
    simp
theorem trim_at {D : List UInt8} {k : Nat} (hk : k ≤ D.length) (h : D.take k ++ List.replicate (D.length - k) 48 = D) (he : k = 0 ∨ ∃ h : k - 1 < D.length, 0 < k ∧ D[k - 1]'h ≠ 48) : trim D = D.take k := by
  rw [← h, trim_zeros]
  have e : (D.take k ++ List.replicate (D.length - k) (48 : UInt8)).take k = D.take k := by
    rw [List.take_append_of_le_length (by simp; omega), List.take_take, Nat.min_self]
  rw [e]
  apply trim_self
  rcases he with rfl | ⟨h1, h0, h2⟩
  · left; simp
  · right
    obtain ⟨q, rfl⟩ : ∃ q, k = q + 1 := ⟨k - 1, by omega⟩
    exact ⟨D.take q, D[q]'(by omega), List.take_succ_eq_append_getElem (by omega), h2⟩
theorem trim_step {D : List UInt8} {k : Nat} (hk : k + 1 ≤ D.length) (h : D.take (k + 1) ++ List.replicate (D.length - (k + 1)) 48 = D) (he : D[k]'(by omega) = 48) : D.take k ++ List.replicate (D.length - k) 48 = D := by
  rw [List.take_succ_eq_append_getElem (by omega), he, List.append_assoc] at h
  rw [show D.length - k = (D.length - (k + 1)) + 1 from by omega, List.replicate_succ]
  exact h
def SetPost (bb : Nat) (u : Nat) (p : Int) (w : World) (e : Ending) (w' : World) : Prop := e = .returned (.tuple #[.int .i64 (((Lib.decDigits u).length : Int) + p), .int .i64 ((trim (Lib.decDigits u)).length : Int)]) ∧ Digs32 bb (Lib.decDigits u) w' ∧ Touch [bb] w w'
set_option maxRecDepth 100000 in
set_option maxHeartbeats 3200000 in
theorem setDigits_any (bb u : Nat) (p : Int) (t : TypeId) (w : World) (h : w.heap[bb]? = some (.cells (Array.replicate 32 (.int .u8 0)) t (0, 0))) (_hu1 : 1 ≤ u) (hu : u < 18446744073709551616) (hp1 : -1000 ≤ p) (hp2 : p ≤ 1000) :
    Calls Tryz.prog 130 #[.slice (some ⟨bb, 0, none⟩) 32 32, .int .u64 (u : Int), .int .i64 p, .int .i64 (Lib.nDigits u : Int)] w (SetPost bb u p w) := by
  have hl := dd_len u hu
  have hnd : (Lib.decDigits u).length = Lib.nDigits u := Lib.decDigits_length u
  have hl1 := dec_len_pos u
  have hsl := run_slice32 bb (Lib.nDigits u) (by omega)
  have hH0 := holds_zero h (Lib.nDigits u) (by omega)
  have hfmt := Tryz.internal_strconv_formatBase10 bb 0 32 u (Array.replicate (Lib.nDigits u) 0) w hH0 (by rw [Array.size_replicate]; exact Lib.lt_pow_nDigits u) hu (by rw [Array.size_replicate]; omega)
  rw [Array.size_replicate] at hfmt
  have HH0 := Lib.hid hH0
  have HH := Lib.hid h
  have HND := Lib.hid hnd
  have HF := Lib.hid hfmt
  clear hH0 hnd hfmt h
  have hn1 : 1 ≤ Lib.nDigits u := by rw [← HND.out]; exact hl1
  have hn2 : Lib.nDigits u ≤ 20 := by rw [← HND.out]; exact hl
  obtain ⟨D, hD⟩ : ∃ D, D = Lib.decDigits u := ⟨_, rfl⟩
  have HD := Lib.hid hD
  clear hl hl1 hD
  obtain ⟨n, hn⟩ : ∃ n, Lib.nDigits u = n := ⟨_, rfl⟩
  have HN := Lib.hid hn
  rw [hn] at hsl HND HF hn1 hn2 HH0 ⊢
  clear hn
  go_enter Tryz.func130, Tryz.ntmps130
  go_wp2_with fail
  try go_at_call 86
  refine HF.out.mono ?_
  rintro e w' ⟨rfl, k, v', dk, rfl, hF⟩
  have hF2 : Lib.FmtInv (Lib.nDigits u) u 0 v' dk := by rw [HN.out]; exact hF
  have hcells : ∀ j (hj : j < D.length), ((putRow (fun (b : UInt8) => Value.int .u8 (b.toNat : Int)) w bb 0 dk).drewN k).cell? ⟨bb, j, none⟩ = some (.int .u8 ((D[j]'hj).toNat : Int)) := by
    intro j hj
    have hjl : j < (Lib.decDigits u).length := by rw [← HD.out]; exact hj
    have e1 : D[j]'hj = (Lib.decDigits u)[j]'hjl := by simp only [HD.out]
    rw [e1, Lib.row_is_numeral hF2 j hjl, World.cell?_drewN]
    have := cell?_putRow (fun (b : UInt8) => Value.int .u8 (b.toNat : Int)) w bb 0 _ dk HH0.out (by rw [hF.size, Array.size_replicate]) j (by rw [hF.size]; rw [HND.out] at hjl; exact hjl)
    rwa [Nat.zero_add] at this
  have ht := touch_put w bb k dk
  have HC := Lib.hid hcells
  have HT := Lib.hid ht
  have HDl := Lib.hid (show D.length = n from by rw [HD.out, HND.out])
  clear hcells ht hF hF2 HF HH0
  generalize (putRow (fun (b : UInt8) => Value.int .u8 (b.toNat : Int)) w bb 0 dk).drewN k = W at *
  go_wp2
  go_loopw [3] (fun c wr => ∃ (q nq : Nat), q ≤ n ∧ c = .int .i64 (q : Int) ∧ Hid (D.take q ++ List.replicate (D.length - q) 48 = D) ∧ wr = W.drewN nq) (fun c _ => (intOf c).toNat)
  case atStart => exact ⟨n, 0, Nat.le_refl _, rfl, Lib.hid (by rw [HDl.out, Nat.sub_self, List.take_of_length_le (by rw [HDl.out]; exact Nat.le_refl _)]; simp), rfl⟩
  case round =>
    obtain ⟨q, nq, hq, rfl, HQ, rfl⟩ := hrel
    by_cases hq0 : 0 < q
    · obtain ⟨q, rfl⟩ : ∃ q', q = q' + 1 := ⟨q - 1, by omega⟩
      have hqD : q < D.length := by rw [HDl.out]; omega
      have hc := HC.out q hqD
      by_cases e48 : D[q]'hqD = 48
      · have HS := Lib.hid (trim_step (by omega) HQ.out e48)
        rw [e48] at hc
        have hc2 : W.cell? ⟨bb, q, none⟩ = some (.int .u8 48) := hc
        clear e48 hqD hc
        go_wp2
        all_goals try go_quiet (fail)
        all_goals go_wp2
        all_goals go_roundw
        case rel => exact ⟨q, _, by omega, by go_num, HS, rfl⟩
        case measure => simp [intOf]
      · have HE := Lib.hid (trim_at (k := q + 1) (by omega) HQ.out (.inr ⟨by simpa using hqD, by omega, by simpa using e48⟩))
        have n48 : (((D[q]'hqD).toNat : Int) == 48) = false := by
          rw [beq_eq_false_iff_ne]
          intro e
          apply e48
          apply UInt8.toNat.inj
          exact_mod_cast e
        have HL := Lib.hid (show (D.take (q + 1)).length = q + 1 from by rw [List.length_take]; omega)
        clear e48
        generalize (D[q]'hqD).toNat = z at hc n48
        clear hqD
        go_wp2
        all_goals try go_quiet (fail)
        all_goals go_wp2
        all_goals go_ret2
        exact ⟨by rw [← HD.out, HE.out, HDl.out, HL.out]; first | rfl | simp, by rw [← HD.out]; exact HC.out, HT.out.trans ((Touch.refl _ _).drewN _)⟩
    · have HE := Lib.hid (show trim D = [] from by
        obtain rfl : q = 0 := by omega
        exact trim_at (Nat.zero_le _) HQ.out (.inl rfl))
      have HZ := Lib.hid (show q = 0 from by omega)
      go_wp2
      all_goals try go_quiet (fail)
      all_goals go_wp2
      all_goals go_ret2
      exact ⟨by rw [← HD.out, HE.out, HDl.out, HZ.out]; first | rfl | simp, by rw [← HD.out]; exact HC.out, HT.out.trans ((Touch.refl _ _).drewN _)⟩
end Go.Proofs.YtdkccihoecpcaaaGreatFmt
