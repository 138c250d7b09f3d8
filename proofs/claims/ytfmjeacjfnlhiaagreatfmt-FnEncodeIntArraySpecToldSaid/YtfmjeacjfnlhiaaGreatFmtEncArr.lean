/- An array of ints, encoded. Conditions: at most 65536 elements; the table of powers of ten lies as the row lists it. -/
import Derived.Test.YtfmjeacjfnlhiaaGreatFmtJmS
import Derived.Test.YtfmjeacjfnlhiaaGreatFmtInts
import Derived.Test.YtfmjeacjfnlhiaaGreatFmtOwn
namespace Go.Proofs.YtfmjeacjfnlhiaaGreatFmt
open Go.RowKit Go
/-- The first k elements, with commas between them. -/
def jo (zs : List Int) : Nat → List UInt8
  | 0 => []
  | k + 1 => jo zs k ++ (if k = 0 then [] else [44]) ++ Lib.itoa (geti zs k)
theorem jo_len (zs : List Int) (hb : ∀ z ∈ zs, -9223372036854775808 ≤ z ∧ z ≤ 9223372036854775807) : ∀ k, k ≤ zs.length → (jo zs k).length ≤ 22 * k
  | 0, _ => by simp [jo]
  | k + 1, h => by
    have ih := jo_len zs hb k (by omega)
    have hz : geti zs k ∈ zs := by
      unfold geti
      rw [List.getD_eq_getElem?_getD, List.getElem?_eq_getElem (by omega), Option.getD_some]
      exact List.getElem_mem _
    have hl := Lib.itoa_length_le (geti zs k) (hb _ hz).1 (hb _ hz).2
    have hi : (if k = 0 then ([] : List UInt8) else [44]).length ≤ 1 := by split <;> simp
    simp only [jo, List.length_append]
    omega
theorem geti_bd {zs : List Int} (hb : ∀ z ∈ zs, -9223372036854775808 ≤ z ∧ z ≤ 9223372036854775807) (k : Nat) (h : k < zs.length) : -9223372036854775808 ≤ geti zs k ∧ geti zs k ≤ 9223372036854775807 := by
  refine hb _ ?_
  unfold geti
  rw [List.getD_eq_getElem?_getD, List.getElem?_eq_getElem h, Option.getD_some]
  exact List.getElem_mem _
/-- Block vb holds the ints as interface values, from B's point of view an old block. -/
def Anys (B vb : Nat) (zs : List Int) (w : World) : Prop := vb < B ∧ ∀ k, k < zs.length → w.cell? ⟨vb, k, none⟩ = some (.iface 3 (.int .i64 (geti zs k)))
theorem anys_below {B vb : Nat} {zs : List Int} {w w' : World} (h : Anys B vb zs w) (hb : Below B w w') : Anys B vb zs w' :=
  ⟨h.1, fun k hk => (hb.cell (p := ⟨vb, k, none⟩) h.1).trans (h.2 k hk)⟩
set_option maxRecDepth 100000 in
set_option maxHeartbeats 3200000 in
theorem encS_array {B b eb vb : Nat} {w : World} (zs : List Int) (h : StS B b eb [] w) (hz : zs.length ≤ 65536) (hb : ∀ z ∈ zs, -9223372036854775808 ≤ z ∧ z ≤ 9223372036854775807) (ha : Anys B vb zs w) (htab : Tab B w) :
    Calls Tryz.prog 56 #[.pointer (some ⟨eb, 0, none⟩), .slice (some ⟨vb, 0, none⟩) zs.length zs.length] w (WrS B b eb ([91] ++ jo zs zs.length ++ [93]) (.tuple #[]) w) := by
  have c0 := h.c0
  have H1 := Lib.hid (wbS h 91 (by simp))
  have HZ := Lib.hid hb
  have HA := Lib.hid ha
  have HT := Lib.hid htab
  obtain ⟨n, hn⟩ : ∃ n, n = zs.length := ⟨_, rfl⟩
  rw [← hn] at hz ⊢
  have HN := Lib.hid hn
  clear hb ha htab h hn
  go_enter Tryz.func56, Tryz.ntmps56
  go_wp2_with (go_at_call 295; refine H1.out.mono ?_; rintro e w1 ⟨rfl, hS, hF⟩; have HS := Lib.hid (And.intro hS hF); clear hS hF)
  clear c0
  go_loopw [4, 5, 13] (fun _ _ ix wr => ∃ k : Nat, k ≤ n ∧ ix = .int .i64 (k : Int) ∧ Hid (StS B b eb ([91] ++ jo zs k) wr ∧ Fr B b eb w wr)) (fun _ _ ix _ => n - (intOf ix).toNat)
  case atStart => exact ⟨0, Nat.zero_le _, rfl, HS⟩
  case round =>
    clear HS
    obtain ⟨k, hk, rfl, HS⟩ := hrel
    have c0 := HS.out.1.c0
    have HB := Lib.hid (show ([91] ++ jo zs k).length + 100 ≤ 140737488355328 from by
      have := jo_len zs HZ.out k (by rw [← HN.out]; exact hk)
      rw [List.length_append, List.length_singleton]
      omega)
    by_cases hlt : k < n
    · have hc := (anys_below HA.out HS.out.2.below).2 k (by rw [← HN.out]; exact hlt)
      have hv := geti_bd HZ.out k (by rw [← HN.out]; exact hlt)
      have HV := Lib.hid hv
      clear hv
      by_cases hk0 : k = 0
      · subst hk0
        have HJ := Lib.hid (show ([91] ++ jo zs 0) ++ Lib.itoa (geti zs 0) = [91] ++ jo zs 1 from by simp [jo])
        have HE := Lib.hid (encS_int HS.out.1 (geti zs 0) HV.out (tab_below HT.out HS.out.2.below) (by have := HB.out; omega))
        go_wp2_with (go_at_call 43; refine HE.out.mono ?_; rintro e w2 ⟨rfl, hS2, hF2⟩; have HS2 := Lib.hid (show StS B b eb ([91] ++ jo zs 1) w2 ∧ Fr B b eb w w2 from ⟨by rw [← HJ.out]; exact hS2, HS.out.2.trans hF2⟩); clear hS2 hF2)
        go_roundw
        case rel => exact ⟨1, by omega, by go_num, HS2⟩
        case measure => simp [intOf]; omega
      · have hk1 : (0 : Int) < (k : Int) := by omega
        have HJ := Lib.hid (show ([91] ++ jo zs k ++ [44]) ++ Lib.itoa (geti zs k) = [91] ++ jo zs (k + 1) from by simp [jo, hk0])
        have HW := Lib.hid (wbS HS.out.1 44 (by have := HB.out; omega))
        clear hk0
        go_wp2_with (go_at_call 295; refine HW.out.mono ?_; rintro e w2 ⟨rfl, hS2, hF2⟩; have HS2 := Lib.hid (And.intro hS2 (HS.out.2.trans hF2)); clear hS2 hF2)
        try go_at_call 43
        refine (encS_int HS2.out.1 (geti zs k) HV.out (tab_below HT.out HS2.out.2.below) (by have := HB.out; rw [List.length_append, List.length_singleton]; omega)).mono ?_
        rintro e w3 ⟨rfl, hS3, hF3⟩
        have HS3 := Lib.hid (show StS B b eb ([91] ++ jo zs (k + 1)) w3 ∧ Fr B b eb w w3 from ⟨by rw [← HJ.out]; exact hS3, HS2.out.2.trans hF3⟩)
        clear hS3 hF3
        go_wp2
        go_roundw
        case rel => exact ⟨k + 1, by omega, by go_num, HS3⟩
        case measure => simp [intOf]; omega
    · obtain rfl : k = n := by omega
      have HW := Lib.hid (wbS HS.out.1 93 (by have := HB.out; omega))
      go_wp2_with (go_at_call 295; refine HW.out.mono ?_; rintro e w2 ⟨rfl, hS2, hF2⟩; have HS2 := Lib.hid (And.intro hS2 (HS.out.2.trans hF2)); clear hS2 hF2)
      go_end0
      exact ⟨rfl, HS2.out.1, HS2.out.2⟩
theorem tab_up {B C : Nat} {w : World} (h : Tab B w) (h1 : B ≤ C) (h2 : C ≤ w.heap.size) : Tab C w := by
  obtain ⟨a, g, hg, hgB, _⟩ := h
  exact ⟨a, g, hg, Nat.lt_of_lt_of_le hgB h1, h2⟩
theorem anys_part (w : World) (zs : List Int) : Anys (w.heap.size + 1) w.heap.size zs (w.alloc (.cells (part zs zs.length) 20)) :=
  ⟨by omega, fun k hk => by
    have := cell_new w (part zs zs.length) 20 k
    rw [Nat.zero_add] at this
    rw [this, part_all zs k hk]⟩
set_option maxRecDepth 100000 in
set_option maxHeartbeats 1600000 in
theorem encS_arr {B b eb vb : Nat} {w : World} (zs : List Int) (h : StS B b eb [] w) (hz : zs.length ≤ 65536) (hb : ∀ z ∈ zs, -9223372036854775808 ≤ z ∧ z ≤ 9223372036854775807) (ha : Anys B vb zs w) (htab : Tab B w) :
    Calls Tryz.prog 43 #[.pointer (some ⟨eb, 0, none⟩), .iface 64 (.slice (some ⟨vb, 0, none⟩) zs.length zs.length)] w (WrS B b eb ([91] ++ jo zs zs.length ++ [93]) (.tuple #[]) w) := by
  have HE := Lib.hid (encS_array zs h hz hb ha htab)
  clear h hb ha htab
  go_enter Tryz.func43, Tryz.ntmps43
  go_wp2_with (go_at_call 56; refine HE.out.mono ?_; rintro e w' ⟨rfl, hS, hF⟩)
  go_end0
  exact ⟨rfl, hS, hF⟩
set_option maxRecDepth 100000 in
set_option maxHeartbeats 1600000 in
theorem zzE (ao : Option Addr) (cap : Nat) (zs : List Int) (w : World) (hz : zs.length ≤ 65536) (hb : ∀ z ∈ zs, -9223372036854775808 ≤ z ∧ z ≤ 9223372036854775807) (hs : IntsArg w ao cap zs) (htab : Tab w.heap.size w) :
    Calls Tryz.prog 29 #[.slice ao zs.length cap] w fun e w' => e = .returned (.string ⟨([91] ++ jo zs zs.length ++ [93]).toArray⟩) ∧ Below w.heap.size w w' := by
  have hmk := make_any w zs.length zs rfl (by omega)
  have Hs := Lib.hid hs.at'
  have Hb := Lib.hid hb
  have Htab := Lib.hid htab
  clear hs hb htab
  generalize hn : zs.length = n at *
  have Hz := Lib.hid hn
  clear hn
  go_enter Tryz.func29, Tryz.ntmps29
  go_wp2
  go_loopw [4, 11] (fun _ ix wr => ∃ k : Nat, k ≤ n ∧ ix = .int .i64 (k : Int) ∧ wr = w.alloc (.cells (part zs k) 20)) (fun _ ix _ => n - (intOf ix).toNat)
  case atStart => exact ⟨0, Nat.zero_le _, rfl, rfl⟩
  case round =>
    obtain ⟨k, hk, rfl, rfl⟩ := hrel
    by_cases hlt : k < n
    · obtain ⟨b, off, hao, hc⟩ := Hs.out k (by first | exact hlt | (rw [Hz.out]; exact hlt))
      cases hao
      have hb : b < w.heap.size := World.block_lt_of_cell? _ _ hc
      have hset := part_set zs k (by rw [Hz.out]; exact hlt)
      have hget := part_get zs k (by rw [Hz.out]; exact hlt)
      clear hmk
      go_wp2
      go_roundw
      case rel => exact ⟨k + 1, by omega, by go_num, rfl⟩
      case measure => simp [intOf]; omega
    · obtain rfl : k = n := by omega
      clear hmk
      have HA := Lib.hid (anys_part w zs)
      have HBw := Lib.hid (show Below w.heap.size w (w.alloc (.cells (part zs zs.length) 20)) from (Below.refl _ _).alloc (Nat.le_refl _) _)
      rw [Hz.out] at HA HBw
      have HT := Lib.hid (show Tab (w.heap.size + 1) (w.alloc (.cells (part zs k) 20)) from tab_up (tab_below Htab.out HBw.out) (by simp) (by simp))
      have HSz := Lib.hid (show (w.alloc (.cells (part zs k) 20)).heap.size = w.heap.size + 1 from by simp)
      generalize w.alloc (.cells (part zs k) 20) = W at HA HBw HT HSz ⊢
      have hW : W.heap.size = w.heap.size + 1 := HSz.out
      go_wp2_with fail
      have hzs : (Tryz.zeroCells72).size = 65 := by kernel_rfl
      have hst := st_newS W (Tryz.zeroCells72.setIfInBounds 0 (.iface 65 (.pointer (some ⟨W.heap.size, 0, none⟩)))) (by simp [hzs]) (by simp [hzs])
      rw [hW] at hst
      have hbe : Below (w.heap.size + 1) W ((W.alloc (.cells #[.pointer none, .slice none 0 0] 67)).alloc (.cells (Tryz.zeroCells72.setIfInBounds 0 (.iface 65 (.pointer (some ⟨w.heap.size + 1, 0, none⟩)))) 72)) := ((Below.refl _ _).alloc (by omega) _).alloc (by simp; omega) _
      have hce := encS_arr zs hst (by rw [Hz.out]; omega) Hb.out (anys_below HA.out hbe) (tab_below HT.out hbe)
      rw [Hz.out] at hce
      try go_at_call 43
      refine hce.mono ?_
      rintro e w1 ⟨rfl, hS, hF⟩
      have HS := Lib.hid hS
      have HB1 := Lib.hid (HBw.out.trans ((hbe.trans hF.below).mono (by omega)))
      clear hS hF hst hbe hce hzs
      go_wp2_with (go_at_call 44; refine (Tryz.Builder_String_any_k (w.heap.size + 1) (w.heap.size + 1) _ _ HS.out.bld HS.out.lew).mono ?_; rintro e w2 ⟨rfl, _, hb2, _⟩; have HB2 := Lib.hid hb2; clear hb2)
      go_ret
      exact ⟨rfl, HB1.out.trans (HB2.out.mono (by omega))⟩
end Go.Proofs.YtfmjeacjfnlhiaaGreatFmt
