/- What the exports' reader makes of an array of ints. Conditions: at most 4097 elements. -/
import Derived.Test.YtlhkbdeceogjgaaGreatDoorIdx
namespace Go.Proofs.YtlhkbdeceogjgaaGreatDoor
open Go.RowKit Go
def ofN (zs : List Nat) : List Int := zs.map (fun (z : Nat) => (z : Int))
theorem ofN_length (zs : List Nat) : (ofN zs).length = zs.length := by simp [ofN]
/-- The cells of an owned row of places. -/
theorem own_cells {w : World} {B : Nat} {v : Value} {zs : List Nat} (h : w.ownsRow B 20 1 v zs.length (zs.map wrapN)) :
    ∃ ao cap, v = .slice ao zs.length cap ∧ (ao = none → zs = [] ∧ cap = 0) ∧ ∀ k, k < zs.length → ∃ g, ao = some ⟨g, 0, none⟩ ∧ w.cell? ⟨g, k, none⟩ = some (.iface 3 (.int .i64 (geti (ofN zs) k))) := by
  obtain ⟨_, ⟨h1, h2⟩ | ⟨g, cap, cur, h1, _, h3, h4, _, _, h7⟩⟩ := h
  · have hz : zs = [] := List.eq_nil_of_length_eq_zero h2
    subst hz
    exact ⟨none, 0, h1, fun _ => ⟨rfl, rfl⟩, fun k hk => by simp at hk⟩
  · refine ⟨some ⟨g, 0, none⟩, cap, h1, fun h => by simp at h, fun k hk => ⟨g, rfl, ?_⟩⟩
    have hc : cur[k]? = (zs.map wrapN)[k]? := by
      rw [← h7, List.getElem?_take, if_pos (by omega), Array.getElem?_toList]
    have e : w.cell? ⟨g, k, none⟩ = cur[k]? := by simp [World.cell?, h3]
    rw [e, hc]
    simp [wrapN, ofN, geti, List.getD_eq_getElem?_getD, List.getElem?_eq_getElem hk]
set_option maxRecDepth 100000 in
set_option maxHeartbeats 800000 in
theorem fromAny_any (B : Nat) (v : Value) (zs : List Nat) (w : World) (hown : w.ownsRow B 20 1 v zs.length (zs.map wrapN)) (hlen : zs.length ≤ 1048576) :
    Calls Tryz.prog 54 #[.iface 68 v] w (Ret (.tuple #[.slice (some ⟨w.heap.size, 0, none⟩) zs.length zs.length, .bool true]) (w.alloc (.cells (copied (ofN zs) zs.length) 3))) := by
  obtain ⟨ao, cap, rfl, _, hs⟩ := own_cells hown
  have hmk := makeInts_any w zs.length (ofN zs) (ofN_length zs) hlen
  have Hs := Lib.hid hs
  have Hl := Lib.hid (ofN_length zs)
  clear hs hown
  generalize hn : zs.length = n at *
  have Hz := Lib.hid hn
  clear hn
  go_enter Tryz.func54, Tryz.ntmps54
  go_wp2
  go_loopw [7, 8, 9, 10, 23] (fun _ _ _ _ i wr => ∃ k : Nat, k ≤ n ∧ i = .int .i64 k ∧ wr = w.alloc (.cells (copied (ofN zs) k) 3)) (fun _ _ _ _ i _ => n - (intOf i).toNat)
  case atStart => exact ⟨0, Nat.zero_le _, rfl, rfl⟩
  case round =>
    obtain ⟨k, hk, rfl, rfl⟩ := hrel
    by_cases hlt : k < n
    · obtain ⟨g, hao, hc⟩ := Hs.out k hlt
      cases hao
      have hb : g < w.heap.size := World.block_lt_of_cell? _ _ hc
      have hset := copied_set (ofN zs) k (by rw [Hl.out]; exact hlt)
      have hget := copied_get (ofN zs) k (by rw [Hl.out]; exact hlt)
      clear hmk
      go_wp2
      go_roundw
      case rel => exact ⟨k + 1, by omega, by go_num, rfl⟩
      case measure => simp [intOf]; omega
    · obtain rfl : k = n := by omega
      go_wp2
      go_ret2
      exact ⟨rfl, rfl⟩
/-- Where xs stands in vs: nowhere if it is empty. -/
def offsAll (vs xs : List Int) : List Nat := if xs.length = 0 then [] else offs vs xs (vs.length + 1 - xs.length)
theorem offsAll_le (vs xs : List Int) : (offsAll vs xs).length ≤ vs.length + 1 := by
  unfold offsAll
  split
  · simp
  · have := offs_le vs xs (vs.length + 1 - xs.length); omega
set_option maxRecDepth 100000 in
theorem indices_empty (b1 n : Nat) (sx : Value) (c : Nat) (hsx : sx = .slice (some ⟨c, 0, none⟩) 0 0) (w : World) :
    Calls Tryz.prog 55 #[.slice (some ⟨b1, 0, none⟩) n n, sx] w (Ret (.iface 68 (.slice (some ⟨w.heap.size, 0, none⟩) 0 0)) (w.alloc (.cells #[] 20))) := by
  subst hsx
  go_enter Tryz.func55, Tryz.ntmps55
  go_wp2
  go_ret
  exact ⟨rfl, rfl⟩
/-- What the export on indices leaves. -/
def ZPost (vs xs : List Int) (w : World) (e : Ending) (w' : World) : Prop :=
  ∃ g, e = .returned (.tuple #[.slice (some ⟨g, 0, none⟩) (offsAll vs xs).length (offsAll vs xs).length, .bool true]) ∧ w.heap.size ≤ g ∧ (∀ k, k < (offsAll vs xs).length → w'.cell? ⟨g, k, none⟩ = some (.int .i64 (geti (ofN (offsAll vs xs)) k))) ∧ Below w.heap.size w w'
theorem part_cell (w : World) (zs : List Int) (k : Nat) (h : k < zs.length) : (w.alloc (.cells (part zs zs.length) 20)).cell? ⟨w.heap.size, k, none⟩ = some (.iface 3 (.int .i64 (geti zs k))) := by
  simp only [World.cell?_alloc_new]
  exact part_all zs k h
set_option maxRecDepth 100000 in
set_option maxHeartbeats 800000 in
theorem zz_indices (v_ao x_ao : Option Addr) (v_cap x_cap : Nat) (vs xs : List Int) (w : World) (hv : vs.length ≤ 4096) (hx : xs.length ≤ 4096) (hvs : IntsArg w v_ao v_cap vs) (hxs : IntsArg w x_ao x_cap xs) :
    Calls Tryz.prog 23 #[.slice v_ao vs.length v_cap, .slice x_ao xs.length x_cap] w (ZPost vs xs w) := by
  have hb1 : Below w.heap.size w (w.alloc (.cells (part vs vs.length) 20)) := (Below.refl _ _).alloc (Nat.le_refl _) _
  have HX := Lib.hid (hxs.below hb1)
  have HV := Lib.hid hvs
  have HB1 := Lib.hid hb1
  clear hvs hxs hb1
  obtain ⟨W1, hW1⟩ : ∃ W1, W1 = w.alloc (.cells (part vs vs.length) 20) := ⟨_, rfl⟩
  have HW1s := Lib.hid (show w.heap.size + 1 = W1.heap.size from by rw [hW1]; simp)
  have HC1 : Hid (∀ k, k < vs.length → W1.cell? ⟨w.heap.size, k, none⟩ = some (.iface 3 (.int .i64 (geti vs k)))) := Lib.hid (fun k hk => by rw [hW1]; exact part_cell w vs k hk)
  have HC2 : Hid (∀ k, k < vs.length → (W1.alloc (.cells (part xs xs.length) 20)).cell? ⟨w.heap.size, k, none⟩ = some (.iface 3 (.int .i64 (geti vs k)))) := Lib.hid (fun k hk => by
    rw [World.cell?_alloc_lt (h := by show w.heap.size < W1.heap.size; have := HW1s.out; omega)]; exact HC1.out k hk)
  have HC3 : Hid (∀ k, k < xs.length → (W1.alloc (.cells (part xs xs.length) 20)).cell? ⟨W1.heap.size, k, none⟩ = some (.iface 3 (.int .i64 (geti xs k)))) := Lib.hid (fun k hk => part_cell W1 xs k hk)
  have HB2 : Hid (Below w.heap.size w (W1.alloc (.cells (part xs xs.length) 20))) := Lib.hid ((hW1 ▸ HB1.out).alloc (by have := HW1s.out; omega) _)
  have HX1 : Hid (IntsArg W1 x_ao x_cap xs) := Lib.hid (hW1 ▸ HX.out)
  have c1 := toAny_at v_ao v_cap vs w (by omega) HV.out
  rw [← hW1] at c1
  have c2 := toAny_at x_ao x_cap xs W1 (by omega) HX1.out
  clear hW1
  generalize hW2 : W1.alloc (.cells (part xs xs.length) 20) = W2 at *
  have HW2s := Lib.hid (show w.heap.size + 2 ≤ W2.heap.size from by have := HW1s.out; rw [← hW2]; simp; omega)
  clear hW2
  have C1 := Lib.hid c1
  have C2 := Lib.hid c2
  clear c1 c2
  by_cases h0 : xs.length = 0
  · have HO := Lib.hid (show offsAll vs xs = [] from by unfold offsAll; rw [if_pos h0])
    have HH0 := Lib.hid h0
    have HBX := Lib.hid ((Below.refl W2.heap.size W2).alloc (Nat.le_refl _) (.cells #[] 20))
    have HOwn : Hid ((W2.alloc (.cells #[] 20)).ownsRow W2.heap.size 20 1 (.slice (some ⟨W2.heap.size, 0, none⟩) 0 0) ([] : List Nat).length (([] : List Nat).map wrapN)) := Lib.hid ⟨rfl, Or.inr ⟨W2.heap.size, 0, #[], rfl, Nat.le_refl _, heap_alloc_new W2 _, Nat.le_refl _, Nat.zero_le _, rfl, rfl⟩⟩
    clear h0
    go_enter Tryz.func23, Tryz.ntmps23
    go_wp2_with fail
    refine C1.out.mono ?_
    rintro e w1 ⟨rfl, rfl⟩
    go_wp2_with fail
    refine C2.out.mono ?_
    rintro e w2 ⟨rfl, rfl⟩
    go_wp2_with fail
    refine (indices_empty _ _ _ _ (by rw [HH0.out]) _).mono ?_
    rintro e w3 ⟨rfl, rfl⟩
    go_wp2_with fail
    refine (fromAny_any _ _ [] _ HOwn.out (by simp)).mono ?_
    rintro e w4 ⟨rfl, rfl⟩
    go_wp2
    go_ret2
    refine ⟨_, by rw [HO.out]; rfl, ?_, fun k hk => by rw [HO.out] at hk; simp at hk, ((HB2.out.alloc (by have := HW2s.out; omega) _).alloc (by have := HW2s.out; simp; omega) _)⟩
    have := HW2s.out
    simp
    omega
  · have HO := Lib.hid (show offsAll vs xs = offs vs xs (vs.length + 1 - xs.length) from by unfold offsAll; rw [if_neg h0])
    have c3 := indices_any w.heap.size W1.heap.size vs.length xs.length vs xs W2 rfl rfl hv hx (by omega) HC2.out HC3.out
    have C3 := Lib.hid c3
    clear c3 h0
    go_enter Tryz.func23, Tryz.ntmps23
    go_wp2_with fail
    refine C1.out.mono ?_
    rintro e w1 ⟨rfl, rfl⟩
    go_wp2_with fail
    refine C2.out.mono ?_
    rintro e w2 ⟨rfl, rfl⟩
    go_wp2_with fail
    refine C3.out.mono ?_
    rintro e w3 ⟨v3, rfl, hown, hb3⟩
    have HOW := Lib.hid hown
    have HB3 := Lib.hid hb3
    clear hown hb3
    rw [← HO.out] at HOW
    go_wp2_with fail
    refine (fromAny_any _ _ _ _ HOW.out (by have := offsAll_le vs xs; omega)).mono ?_
    rintro e w4 ⟨rfl, rfl⟩
    go_wp2
    go_ret2
    refine ⟨_, rfl, ?_, fun k hk => ?_, ((HB2.out.trans (HB3.out.mono (by have := HW2s.out; omega))).alloc (by have h1 := HW2s.out; have h2 := HB3.out.size; omega) _)⟩
    · have h1 := HW2s.out
      have h2 := HB3.out.size
      omega
    · simp only [World.cell?_alloc_new]
      have := copied_all (ofN (offsAll vs xs)) k (by rw [ofN_length]; exact hk)
      rwa [ofN_length] at this
end Go.Proofs.YtlhkbdeceogjgaaGreatDoor
