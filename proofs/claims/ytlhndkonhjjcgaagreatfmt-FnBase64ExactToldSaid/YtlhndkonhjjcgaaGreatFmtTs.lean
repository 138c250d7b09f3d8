/- Base64's text of a string: walked. Conditions: at most 1048576 bytes. -/
import Derived.Test.YtlhndkonhjjcgaaGreatFmtEn
import Derived.Test.YtlhndkonhjjcgaaGreatFmtAs
import Derived.Laws.MakeOwn
import Derived.Laws.IdiomStrings
namespace Go.Proofs.YtlhndkonhjjcgaaGreatFmt
open Go.RowKit Go
def alph : ByteArray := ⟨#[65, 66, 67, 68, 69, 70, 71, 72, 73, 74, 75, 76, 77, 78, 79, 80, 81, 82, 83, 84, 85, 86, 87, 88, 89, 90, 97, 98, 99, 100, 101, 102, 103, 104, 105, 106, 107, 108, 109, 110, 111, 112, 113, 114, 115, 116, 117, 118, 119, 120, 121, 122, 48, 49, 50, 51, 52, 53, 54, 55, 56, 57, 43, 47]⟩
theorem alph_size : alph.size = 64 := by kernel_rfl
theorem alph_n : ∀ j : Fin 64, (alph[j.val]'(by rw [alph_size]; exact j.isLt)).toNat ≠ 10 ∧ (alph[j.val]'(by rw [alph_size]; exact j.isLt)).toNat ≠ 13 := by decide +kernel
theorem alph_d : ∀ i j : Fin 64, i < j → alph[i.val]'(by rw [alph_size]; exact i.isLt) ≠ alph[j.val]'(by rw [alph_size]; exact j.isLt) := by decide +kernel
set_option maxRecDepth 100000 in
theorem stdEnc (w : World) : Calls Tryz.prog 56 #[] w fun e w' => ∃ b, e = .returned (.pointer (some ⟨b, 0, none⟩)) ∧ w.heap.size ≤ b ∧ EncB alph b w' ∧ Below w.heap.size w w' := by
  have HN := Lib.hid (newEnc alph alph_size (fun j h => alph_n ⟨j, by rw [alph_size] at h; exact h⟩) (fun i j hi hj hij => alph_d ⟨i, by rw [alph_size] at hi; exact hi⟩ ⟨j, by rw [alph_size] at hj; exact hj⟩ hij) w)
  go_enter Tryz.func56, Tryz.ntmps56
  go_wp2_with (go_at_call 68; refine HN.out.mono ?_; rintro e w' ⟨b, rfl, hb, hE, hB⟩)
  go_ret
  exact ⟨b, rfl, hb, hE, hB⟩
set_option maxRecDepth 100000 in
theorem encLen (b : Nat) (al : ByteArray) (m : Nat) (hm : m ≤ 1048576) (w : World) (he : EncB al b w) : Calls Tryz.prog 69 #[.pointer (some ⟨b, 0, none⟩), .int .i64 (m : Int)] w (Ret (.int .i64 (((m + 2) / 3 * 4 : Nat) : Int)) w) := by
  obtain ⟨cur, h1, h2, h3, h4⟩ := he
  have hp : w.cell? ⟨b, 320, none⟩ = some (.int .i32 61) := by rw [Lib.cell_of_heap h1]; exact h3
  clear h1 h2 h3 h4
  go_enter Tryz.func69, Tryz.ntmps69
  go_wp2
  go_ret
  exact ⟨by first | rfl | (simp; done) | (congr 2; omega) | (simp; omega), rfl⟩
theorem encB_touch {al : ByteArray} {b : Nat} {S : List Nat} {w w' : World} (h : EncB al b w) (ht : Touch S w w') (hn : b ∉ S) : EncB al b w' := by
  obtain ⟨cur, h1, h2⟩ := h
  exact ⟨cur, (ht.block b (Lib.lt_of_heap h1) hn).trans h1, h2⟩
theorem touch_below {w w' : World} {B : Nat} {S : List Nat} (h : Touch S w w') (hS : ∀ k ∈ S, B ≤ k := by simp) (hB : B ≤ w.heap.size := by simp) : Below B w w' := ⟨h.os, h.tape, h.output, h.size, fun k hk => h.block k (by omega) (fun hm => absurd (hS k hm) (by omega))⟩
theorem rowA_made (w : World) (n : Nat) : RowA w.heap.size n [] (w.alloc (.cells (madeCells #[.int .u8 0] n) 5)) (w.alloc (.cells (madeCells #[.int .u8 0] n) 5)) :=
  ⟨⟨_, alloc_at _ _, size_madeCells _ _, fun j h => absurd h (by simp)⟩, Touch.refl _ _⟩
theorem make_n (w : World) (n : Nat) (hn : n ≤ 7000000) : (Instr.makeSlice 24 (.int .i64 (n : Int)) (.int .i64 (n : Int))).run Tryz.prog w = .ok (.slice (some ⟨w.heap.size, 0, none⟩) n n) (w.alloc (.cells (madeCells #[.int .u8 0] n) 5)) := by
  obtain ⟨i0, hi, hz0, hz1, hz2⟩ := info_parts info_byte
  rw [run_make w 24 5 i0 (.int .u8 0) Tryz.underlying24 hi hz0 .i64 .i64 (n : Int) (n : Int) (by omega) (by omega) (by rw [hz2]; omega) (by omega)]
  rw [hz1, Int.toNat_natCast, Nat.mul_one]
  rfl
set_option maxRecDepth 100000 in
set_option maxHeartbeats 1600000 in
theorem toStr (b h c : Nat) (al x : ByteArray) (w : World) (he : EncB al b w) (hal : al.size = 64) (hx : ∀ j (hj : j < x.size), w.cell? ⟨h, j, none⟩ = some (.int .u8 ((x[j]'hj).toNat : Int))) (hh : h < w.heap.size) (hc : x.size ≤ c) (hxs : x.size ≤ 1048576) :
    Calls Tryz.prog 57 #[.pointer (some ⟨b, 0, none⟩), .slice (some ⟨h, 0, none⟩) x.size c] w fun e w' => e = .returned (.string ⟨(b64 al x).toArray⟩) ∧ Below w.heap.size w w' := by
  obtain ⟨n, hn⟩ : ∃ n, n = (x.size + 2) / 3 * 4 := ⟨_, rfl⟩
  have hbw : b < w.heap.size := by obtain ⟨cur, h1, _⟩ := he; exact Lib.lt_of_heap h1
  have hL := encLen b al x.size hxs w he
  rw [← hn] at hL
  have HL := Lib.hid hL
  have hmk := make_n w n (by omega)
  have ht : Touch [] w (w.alloc (.cells (madeCells #[.int .u8 0] n) 5)) := (Touch.refl _ _).alloc _
  have HE := Lib.hid (encode_any b w.heap.size h n c al x (w.alloc (.cells (madeCells #[.int .u8 0] n) 5)) (encB_touch he ht (by simp)) hal (rowA_made w n)
    (fun j hj => by rw [ht.cell (p := ⟨h, j, none⟩) (by exact hh) (by simp)]; exact hx j hj) (by omega) (by omega) hn hc hxs)
  have HB := Lib.hid (show Below w.heap.size w (w.alloc (.cells (madeCells #[.int .u8 0] n) 5)) from (Below.refl _ _).alloc (Nat.le_refl _) _)
  have HZ := Lib.hid (show (b64 al x).length = n from by rw [b64_len, hn])
  clear hL ht he hx hn
  go_enter Tryz.func57, Tryz.ntmps57
  go_wp2_with (go_at_call 69; refine HL.out.mono ?_; rintro e w' ⟨rfl, rfl⟩)
  try go_at_call 70
  refine HE.out.mono ?_
  rintro e w1 ⟨rfl, hR⟩
  have hcv : (convert 24 9 (.slice (some ⟨w.heap.size, 0, none⟩) n n)).run Tryz.prog w1 = .ok (.string ⟨(b64 al x).toArray⟩) w1 := by
    have h := run_convert_bytes_back (P := Tryz.prog) w1 24 9 5 ⟨w.heap.size, 0, none⟩ n (b64 al x) Tryz.underlying24 Tryz.underlying5 Tryz.underlying9 (fun j hj => by
      obtain ⟨⟨cur, h1, h2, h3⟩, _⟩ := hR
      rw [Lib.addr_add, Nat.zero_add, Lib.cell_of_heap h1]
      exact h3 j hj)
    rw [HZ.out] at h
    exact h
  have HB1 := Lib.hid (HB.out.trans (touch_below hR.2))
  clear hR hmk
  go_wp2
  go_ret
  exact ⟨rfl, HB1.out⟩
theorem cell_bytesRow (s : ByteArray) (c j : Nat) (hj : j < s.size) : (bytesRow s c)[j]? = some (.int .u8 ((s[j]'hj).toNat : Int)) := by
  unfold bytesRow
  have h : j < (s.data.map (fun b => Value.int .u8 (b.toNat : Int))).size := by rw [Array.size_map]; exact hj
  rw [Array.getElem?_append_left h, Array.getElem?_map, Array.getElem?_eq_getElem (by exact hj)]
  rfl
set_option maxRecDepth 100000 in
theorem toString_str (x : ByteArray) (w : World) : Calls Tryz.prog 55 #[.iface 9 (.string x)] w (Ret (.iface 9 (.string x)) w) := by
  go_enter Tryz.func55, Tryz.ntmps55
  go_wp2
  go_ret
  exact ⟨rfl, rfl⟩
set_option maxRecDepth 100000 in
set_option maxHeartbeats 1600000 in
theorem funcTo (x : ByteArray) (hxs : x.size ≤ 1048576) (w : World) : Calls Tryz.prog 43 #[.iface 9 (.string x)] w fun e w' => e = .returned (.iface 9 (.string ⟨(b64 alph x).toArray⟩)) ∧ Below w.heap.size w w' := by
  have HS := Lib.hid (stdEnc w)
  have hcb : ∀ W, (convert 9 24 (.string x)).run Tryz.prog W = .ok (.slice (some ⟨W.heap.size, 0, none⟩) x.size (grownCap W x.size 0 5)) (W.drew.alloc (.cells (bytesRow x (grownCap W x.size 0 5)) 5 ((bytesRow x (grownCap W x.size 0 5)).size, (bytesRow x (grownCap W x.size 0 5)).size + 1))) :=
    fun W => run_bytes_of_string W 9 24 5 x Tryz.underlying9 Tryz.underlying24 Tryz.underlying5
  go_enter Tryz.func43, Tryz.ntmps43
  go_wp2_with (go_at_call 55; refine (toString_str x _).mono ?_; rintro e w' ⟨rfl, rfl⟩)
  try go_at_call 56
  refine HS.out.mono ?_
  rintro e w1 ⟨b, rfl, hb, hE, hB⟩
  go_wp2_with fail
  try go_at_call 57
  clear hcb
  have hge := grownCap_ge w1 x.size 0 5
  generalize grownCap w1 x.size 0 5 = c at hge
  have ht : Touch [] w1 (w1.alloc (.cells (bytesRow x c) 5 ((bytesRow x c).size, (bytesRow x c).size + 1))).drew := ((Touch.refl _ _).alloc _).drewN 1
  have hB2 : Below w.heap.size w (w1.alloc (.cells (bytesRow x c) 5 ((bytesRow x c).size, (bytesRow x c).size + 1))).drew := hB.trans (touch_below ht (by simp) hB.size)
  refine (toStr b w1.heap.size c alph x _ (encB_touch hE ht (by simp)) alph_size (fun j hj => ?_) ?_ hge hxs).mono ?_
  · rw [← cell_bytesRow x c j hj]
    exact cell_of_row _ _ _ _ _ _ (alloc_at w1 (.cells (bytesRow x c) 5 ((bytesRow x c).size, (bytesRow x c).size + 1)))
  · show w1.heap.size < (w1.heap.push _).size
    simp
  · rintro e w3 ⟨rfl, hB3⟩
    have HB := Lib.hid (hB2.trans (hB3.mono hB2.size))
    clear hB3 hB2 ht hE hB
    go_wp2
    go_ret
    exact ⟨rfl, HB.out⟩
set_option maxRecDepth 100000 in
theorem asStr (t : ByteArray) (w : World) : Calls Tryz.prog 42 #[.iface 9 (.string t)] w (Ret (.tuple #[.string t, .bool true]) w) := by
  go_enter Tryz.func42, Tryz.ntmps42
  go_wp2
  go_ret2
  exact ⟨rfl, rfl⟩
set_option maxRecDepth 100000 in
theorem zz64 (x : ByteArray) (hxs : x.size ≤ 1048576) (w : World) : Calls Tryz.prog 26 #[.string x] w fun e w' => e = .returned (.tuple #[.string ⟨(b64 alph x).toArray⟩, .bool true]) ∧ Below w.heap.size w w' := by
  have HF := Lib.hid (funcTo x hxs)
  go_enter Tryz.func26, Tryz.ntmps26
  go_wp2_with (go_at_call 43; refine (HF.out _).mono ?_; rintro e w1 ⟨rfl, hB⟩)
  try go_at_call 42
  refine (asStr _ _).mono ?_
  rintro e w2 ⟨rfl, rfl⟩
  go_wp2
  go_ret2
  exact ⟨rfl, hB⟩
end Go.Proofs.YtlhndkonhjjcgaaGreatFmt
