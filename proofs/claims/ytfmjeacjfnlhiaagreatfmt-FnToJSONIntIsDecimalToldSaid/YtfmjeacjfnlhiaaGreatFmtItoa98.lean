/- The law's own decimal numeral of an int. Conditions: none. -/
import Derived.Test.YtfmjeacjfnlhiaaGreatFmtTouch
import Derived.Outline
import Derived.Lib.ItoaMem
import Derived.Lib.ItoaLen
import Derived.Laws.IdiomStrings
import Derived.Laws.Slices
namespace Go.Proofs.YtfmjeacjfnlhiaaGreatFmt
open Go.RowKit Go
/-- The law's buffer: l stands at its end. -/
def bufOf (l : List UInt8) : Array Value := (List.replicate (24 - l.length) (Value.int .u8 0) ++ Lib.byteCells l).toArray
theorem byteCells_len (l : List UInt8) : (Lib.byteCells l).length = l.length := bc_len l
theorem bufOf_size (l : List UInt8) (h : l.length ≤ 24) : (bufOf l).size = 24 := by simp [bufOf, byteCells_len]; omega
theorem bufOf_set (l : List UInt8) (c : UInt8) (i : Nat) (h : i + l.length = 23) : (bufOf l).setIfInBounds i (.int .u8 (c.toNat : Int)) = bufOf (c :: l) := by
  apply Array.ext'
  simp only [bufOf, List.setIfInBounds_toArray, List.length_cons]
  have e : 24 - l.length = (24 - (l.length + 1)) + 1 := by omega
  have e2 : i = (List.replicate (24 - (l.length + 1)) (Value.int .u8 0)).length := by simp; omega
  rw [e, List.replicate_succ', List.append_assoc, e2, List.set_append_right _ _ (Nat.le_refl _), Nat.sub_self]
  simp [Lib.byteCells]
theorem bufOf_get (l : List UInt8) (i : Nat) (h : i + l.length = 23) : (bufOf l)[i]? = some (.int .u8 0) := by
  simp only [bufOf, List.getElem?_toArray]
  rw [List.getElem?_append_left (by simp; omega)]
  simp [List.getElem?_replicate]; omega
theorem dig_byte (u : Nat) : IntKind.u8.wrap (48 + (u : Int) % 10) = ((UInt8.ofNat (48 + u % 10)).toNat : Int) := by
  have h : u % 10 < 10 := Nat.mod_lt _ (by omega)
  have e : (UInt8.ofNat (48 + u % 10)).toNat = 48 + u % 10 := by simp; omega
  rw [e, IntKind.wrap_u8]
  omega
theorem u64_in (x : Int) (h : 0 ≤ x ∧ x < 18446744073709551616) : IntKind.u64.wrap x = x := by rw [IntKind.wrap_u64]; omega
theorem bufOf_nil : (#[Value.int .u8 0, .int .u8 0, .int .u8 0, .int .u8 0, .int .u8 0, .int .u8 0, .int .u8 0, .int .u8 0, .int .u8 0, .int .u8 0, .int .u8 0, .int .u8 0, .int .u8 0, .int .u8 0, .int .u8 0, .int .u8 0, .int .u8 0, .int .u8 0, .int .u8 0, .int .u8 0, .int .u8 0, .int .u8 0, .int .u8 0, .int .u8 0] : Array Value) = bufOf [] := rfl
theorem bufOf_zero : (#[Value.int .u8 0, .int .u8 0, .int .u8 0, .int .u8 0, .int .u8 0, .int .u8 0, .int .u8 0, .int .u8 0, .int .u8 0, .int .u8 0, .int .u8 0, .int .u8 0, .int .u8 0, .int .u8 0, .int .u8 0, .int .u8 0, .int .u8 0, .int .u8 0, .int .u8 0, .int .u8 0, .int .u8 0, .int .u8 0, .int .u8 0, .int .u8 48] : Array Value) = bufOf [48] := rfl
theorem run_slice_buf (b p : Nat) (l : List UInt8) (h : p + l.length = 24) (hp : p < 24) (W : World) :
    (Instr.sliceAt 57 (.pointer (some ⟨b, 0, none⟩)) (some (.int .i64 p)) none none).run Tryz.prog W = .ok (.slice (some ⟨b, p, none⟩) l.length l.length) W := by
  have hal : Tryz.prog.arrayLen 57 = 24 := by kernel_rfl
  rw [run_sliceAt_array_l W 57 ⟨b, 0, none⟩ (by kernel_rfl) .i64 (p : Int) (by omega) (by rw [hal]; omega)]
  have hsz : ∀ W, (sizeOf (Tryz.prog.elem 57)).run Tryz.prog W = .ok 1 W := fun W => by kernel_rfl
  rw [hsz, hal]
  have e : l.length = 24 - p := by omega
  have hne : ¬ 24 = p := by omega
  simp [slicedAt, e, hne, Addr.add, Result.andThen]
  intro h; omega
theorem run_text (w : World) (p : Nat) (l : List UInt8) (h : p + l.length = 24) : (convert 41 9 (.slice (some ⟨w.heap.size, p, none⟩) l.length l.length)).run Tryz.prog (w.alloc (.cells (bufOf l) 57)) = .ok (.string ⟨l.toArray⟩) (w.alloc (.cells (bufOf l) 57)) := by
  refine run_convert_bytes_back _ 41 9 5 ⟨w.heap.size, p, none⟩ l.length l Tryz.underlying41 Tryz.underlying5 Tryz.underlying9 (fun j hj => ?_)
  have e : (⟨w.heap.size, p, none⟩ : Addr).add j = ⟨w.heap.size, p + j, none⟩ := by simp [Addr.add]
  rw [e, World.cell?_alloc_new]
  simp only [bufOf, List.getElem?_toArray]
  rw [List.getElem?_append_right (by simp; omega)]
  have e2 : p + j - (List.replicate (24 - l.length) (Value.int .u8 0)).length = j := by simp; omega
  rw [e2]
  simp [Lib.byteCells, hj]
/-- What the loop keeps. -/
def Digs (D : List UInt8) (q : Nat) (l : List UInt8) : Prop := (q = 0 → l = D) ∧ (0 < q → Lib.decDigits q ++ l = D)
theorem digs_step {D : List UInt8} {q : Nat} {l : List UInt8} (h : Digs D q l) (hq : 0 < q) : Digs D (q / 10) (UInt8.ofNat (48 + q % 10) :: l) := by
  have h2 := h.2 hq
  rw [Lib.decDigits] at h2
  by_cases e : q < 10
  · rw [dif_pos e] at h2
    have e0 : q / 10 = 0 := by omega
    have e1 : q % 10 = q := by omega
    rw [e0, e1]
    exact ⟨fun _ => h2, fun h => by omega⟩
  · rw [dif_neg e] at h2
    refine ⟨fun h => by omega, fun _ => ?_⟩
    rw [List.append_assoc] at h2
    exact h2
theorem digs_len {u q : Nat} {l : List UInt8} (h : Digs (Lib.decDigits u) q l) (hq : 0 < q) (hu : u ≤ 9223372036854775808) : l.length ≤ 19 := by
  have h2 := congrArg List.length (h.2 hq)
  rw [List.length_append, Lib.decDigits_length, Lib.decDigits_length] at h2
  have h3 := Lib.nDigits_le20 u (by omega)
  have h4 : 1 ≤ Lib.nDigits q := by rw [Lib.nDigits]; split <;> omega
  omega
theorem digs_end {u : Nat} {l : List UInt8} (h : Digs (Lib.decDigits u) 0 l) (hu : u ≤ 9223372036854775808) : l = Lib.decDigits u ∧ 1 ≤ l.length ∧ l.length ≤ 20 := by
  have h1 := h.1 rfl
  refine ⟨h1, ?_, ?_⟩ <;> rw [h1, Lib.decDigits_length]
  · rw [Lib.nDigits]; split <;> omega
  · exact Lib.nDigits_le20 u (by omega)
set_option maxRecDepth 100000 in
set_option maxHeartbeats 1600000 in
theorem itoa98_any (v : Int) (h : -9223372036854775808 ≤ v ∧ v ≤ 9223372036854775807) (w : World) :
    Calls Tryz.prog 27 #[.int .i64 v] w fun e w' => e = .returned (.string ⟨(Lib.itoa v).toArray⟩) ∧ Below w.heap.size w w' := by
  obtain ⟨u0, hu0⟩ : ∃ u : Nat, u = v.natAbs := ⟨_, rfl⟩
  have h64 : u0 ≤ 9223372036854775808 := by omega
  have HU := Lib.hid hu0
  by_cases hn : v < 0
  · have h1 : IntKind.i64.wrap (v + 1) = v + 1 := IntWalk.i64_in _ (by omega)
    have h2 : IntKind.i64.wrap (-(v + 1)) = -(v + 1) := IntWalk.i64_in _ (by omega)
    have h3 : IntKind.u64.wrap (-(v + 1)) = -(v + 1) := u64_in _ (by omega)
    have e1 : IntKind.u64.wrap (-(v + 1) + 1) = u0 := by rw [u64_in _ (by omega)]; omega
    have HVN := Lib.hid hn
    have hz : ((u0 : Int) == 0) = false := by rw [beq_eq_false_iff_ne]; omega
    have hvz : (v == 0) = false := by rw [beq_eq_false_iff_ne]; omega
    have HP := Lib.hid (show 0 < u0 from by omega)
    clear hu0
    go_enter Tryz.func27, Tryz.ntmps27
    go_wp2
    go_loopw [4, 6] (fun u i wr => ∃ (q p : Nat) (l : List UInt8), q ≤ 9223372036854775808 ∧ p + l.length = 24 ∧ u = .int .u64 q ∧ i = .int .i64 p ∧ Hid (Digs (Lib.decDigits u0) q l) ∧ wr = w.alloc (.cells (bufOf l) 57)) (fun u _ _ => (intOf u).toNat)
    case atStart => exact ⟨u0, 24, [], h64, rfl, rfl, rfl, Lib.hid ⟨fun h => absurd h (by have := HP.out; omega), fun _ => List.append_nil _⟩, by rw [← bufOf_nil]⟩
    case round =>
      obtain ⟨q, p, l, hq, hpl, rfl, rfl, HD, rfl⟩ := hrel
      by_cases hq0 : 0 < q
      · have hlen := digs_len HD.out hq0 h64
        obtain ⟨p', rfl⟩ : ∃ p', p = p' + 1 := ⟨p - 1, by omega⟩
        have HS := Lib.hid (digs_step HD.out hq0)
        obtain ⟨c, hc⟩ : ∃ c, c = UInt8.ofNat (48 + q % 10) := ⟨_, rfl⟩
        have hcb := dig_byte q
        rw [← hc] at hcb HS
        have hset := bufOf_set l c p' (by omega)
        have hget := bufOf_get l p' (by omega)
        have HPL := Lib.hid (show p' + (c :: l).length = 24 from by simp; omega)
        have hp23 : p' ≤ 23 := by omega
        clear hc hpl
        go_wp2
        go_roundw
        case rel => exact ⟨q / 10, p', c :: l, by omega, HPL.out, by go_num, by go_num, HS, rfl⟩
        case measure => simp [intOf]; omega
      · obtain rfl : q = 0 := by omega
        obtain ⟨d1, d2, d3⟩ := digs_end HD.out h64
        have hp4 : 4 ≤ p := by omega
        obtain ⟨p', rfl⟩ : ∃ p', p = p' + 1 := ⟨p - 1, by omega⟩
        have hset : (bufOf l).setIfInBounds p' (.int .u8 45) = bufOf (45 :: l) := bufOf_set l 45 p' (by omega)
        have hget := bufOf_get l p' (by omega)
        have hsl := fun W => run_slice_buf w.heap.size p' (45 :: l) (by simp; omega) (by omega) W
        have htx := run_text w p' (45 :: l) (by simp; omega)
        have HR := Lib.hid (show (45 :: l) = Lib.itoa v from by rw [d1]; unfold Lib.itoa; rw [if_pos hn, HU.out])
        generalize (45 :: l) = L at hset hsl htx HR ⊢
        have hp23 : p' ≤ 23 := by omega
        clear d1 d2 d3 hpl
        go_wp2
        go_ret
        exact ⟨by rw [HR.out]; rfl, (Below.refl _ _).alloc (Nat.le_refl _) _⟩
  · have e1 : IntKind.u64.wrap v = u0 := by rw [u64_in v (by omega)]; omega
    by_cases hz0 : u0 = 0
    · have hv0 : v = 0 := by omega
      subst hv0
      subst hz0
      have e2 : Lib.itoa 0 = [48] := by unfold Lib.itoa; rw [if_neg (by omega)]; show Lib.decDigits 0 = [48]; rw [Lib.decDigits]; rfl
      rw [e2]
      clear e1 hu0 e2
      go_enter Tryz.func27, Tryz.ntmps27
      go_wp2
      go_ret
      exact ⟨rfl, Below.refl _ _⟩
    · have hz : ((u0 : Int) == 0) = false := by rw [beq_eq_false_iff_ne]; omega
      have hvz : (v == 0) = false := by rw [beq_eq_false_iff_ne]; omega
      have HP := Lib.hid (show 0 < u0 from by omega)
      clear hu0 hz0
      go_enter Tryz.func27, Tryz.ntmps27
      go_wp2
      go_loopw [4, 6] (fun u i wr => ∃ (q p : Nat) (l : List UInt8), q ≤ 9223372036854775808 ∧ p + l.length = 24 ∧ u = .int .u64 q ∧ i = .int .i64 p ∧ Hid (Digs (Lib.decDigits u0) q l) ∧ wr = w.alloc (.cells (bufOf l) 57)) (fun u _ _ => (intOf u).toNat)
      case atStart => exact ⟨u0, 24, [], h64, rfl, rfl, rfl, Lib.hid ⟨fun h => absurd h (by have := HP.out; omega), fun _ => List.append_nil _⟩, by rw [← bufOf_nil]⟩
      case round =>
        obtain ⟨q, p, l, hq, hpl, rfl, rfl, HD, rfl⟩ := hrel
        by_cases hq0 : 0 < q
        · have hlen := digs_len HD.out hq0 h64
          obtain ⟨p', rfl⟩ : ∃ p', p = p' + 1 := ⟨p - 1, by omega⟩
          have HS := Lib.hid (digs_step HD.out hq0)
          obtain ⟨c, hc⟩ : ∃ c, c = UInt8.ofNat (48 + q % 10) := ⟨_, rfl⟩
          have hcb := dig_byte q
          rw [← hc] at hcb HS
          have hset := bufOf_set l c p' (by omega)
          have hget := bufOf_get l p' (by omega)
          have HPL := Lib.hid (show p' + (c :: l).length = 24 from by simp; omega)
          have hp23 : p' ≤ 23 := by omega
          clear hc hpl
          go_wp2
          go_roundw
          case rel => exact ⟨q / 10, p', c :: l, by omega, HPL.out, by go_num, by go_num, HS, rfl⟩
          case measure => simp [intOf]; omega
        · obtain rfl : q = 0 := by omega
          obtain ⟨d1, d2, d3⟩ := digs_end HD.out h64
          have hp4 : 4 ≤ p := by omega
          have hsl := fun W => run_slice_buf w.heap.size p l hpl (by omega) W
          have htx := run_text w p l hpl
          have HR := Lib.hid (show l = Lib.itoa v from by rw [d1]; unfold Lib.itoa; rw [if_neg (by omega), show v.toNat = u0 from by have := HU.out; omega])
          have hp23 : p ≤ 23 := by omega
          clear d1 d2 d3 hpl
          go_wp2
          go_ret
          exact ⟨by rw [HR.out]; rfl, (Below.refl _ _).alloc (Nat.le_refl _) _⟩
end Go.Proofs.YtfmjeacjfnlhiaaGreatFmt
