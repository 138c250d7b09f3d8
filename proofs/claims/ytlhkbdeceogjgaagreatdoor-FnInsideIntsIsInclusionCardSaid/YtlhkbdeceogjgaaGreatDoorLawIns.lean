/- The law on inside of arrays of ints, walked. Conditions: none. -/
import Derived.Test.YtlhkbdeceogjgaaGreatDoorInIns
import Derived.Test.YtlhkbdeceogjgaaGreatDoorSorted
import Derived.Laws.CopyRow
import Derived.Deep.WholeRow
namespace Go.Proofs.YtlhkbdeceogjgaaGreatDoor
open Go.RowKit Go
theorem ret_bool {b c : Bool} (h : b = c) : Ending.returned (.bool b) = .returned (.bool c) := by rw [h]
/-- It returns v; of what was there nothing has changed. -/
def RetB (v : Value) (w : World) (e : Ending) (w' : World) : Prop := e = .returned v ∧ Below w.heap.size w w'
theorem below_drewN {B : Nat} {w w1 : World} (h : Below B w w1) (n : Nat) : Below B w (w1.drewN n) := h.trans ⟨rfl, rfl, rfl, Nat.le_refl _, fun _ _ => rfl⟩
set_option maxRecDepth 100000 in
set_option maxHeartbeats 800000 in
theorem zz_insideInts (v_ao x_ao : Option Addr) (v_cap x_cap : Nat) (v x : List Int) (w : World) (hv : v.length ≤ 1048576) (hx : x.length ≤ 1048576) (hvs : IntsArg w v_ao v_cap v) (hxs : IntsArg w x_ao x_cap x) :
    Calls Tryz.prog 29 #[.slice v_ao v.length v_cap, .slice x_ao x.length x_cap] w (RetB (.tuple #[.bool (allIn x v), .bool true]) w) := by
  have HV := Lib.hid hvs
  have HX := Lib.hid hxs
  clear hvs hxs
  go_enter Tryz.func29, Tryz.ntmps29
  go_wp2_with fail
  refine (toAny_any v_ao v_cap v _ hv HV.out).mono ?_
  rintro e w1 ⟨a1, c1, rfl, ha1, hb1⟩
  have HA1 := Lib.hid ha1
  have HB1 := Lib.hid hb1
  clear ha1 hb1
  go_wp2_with fail
  refine (toAny_any x_ao x_cap x _ hx (HX.out.below HB1.out)).mono ?_
  rintro e w2 ⟨a2, c2, rfl, ha2, hb2⟩
  have HA2 := Lib.hid ha2
  have HB2 := Lib.hid hb2
  have HA1' := Lib.hid (HA1.out.below hb2)
  clear ha2 hb2
  go_wp2_with (first | (go_at_call 53; go_in) | (go_at_call 69; go_in) | (go_at_call 70; go_in) | (go_at_call 105; refine (containsArr a2 a1 x.length v.length c2 c1 x v _ rfl rfl hx hv HA2.out HA1'.out).mono ?_; rintro e w' ⟨rfl, nq, rfl⟩) | (go_at_call 52; go_in))
  go_ret2
  exact ⟨rfl, below_drewN (HB1.out.trans (HB2.out.mono HB1.out.size)) nq⟩
@[go_sem] theorem eql_arr_str (a : Option Addr) (n c : Nat) (s : ByteArray) (w : World) : (binOp .eql 20 (.iface 68 (.slice a n c)) (.iface 9 (.string s))).run Tryz.prog w = .ok (.bool false) w := by kernel_rfl
@[go_sem] theorem as_err_f1 (a : Addr) (w : World) : (Instr.typeAssert (.iface 125 (.pointer (some a))) 20 72 true).run Tryz.prog w = .ok (.tuple #[.iface 125 (.pointer (some a)), .bool true]) w := by kernel_rfl
set_option maxRecDepth 100000 in
set_option maxHeartbeats 800000 in
theorem zz_insideStrInts (s : ByteArray) (x_ao : Option Addr) (x_cap : Nat) (x : List Int) (w : World) (hx : x.length ≤ 1048576) (hxs : IntsArg w x_ao x_cap x) :
    Calls Tryz.prog 32 #[.string s, .slice x_ao x.length x_cap] w (RetB (.bool true) w) := by
  have HX := Lib.hid hxs
  clear hxs
  go_enter Tryz.func32, Tryz.ntmps32
  go_wp2_with fail
  refine (toAny_any x_ao x_cap x _ hx HX.out).mono ?_
  rintro e w1 ⟨a1, c1, rfl, ha1, hb1⟩
  have HB1 := Lib.hid hb1
  clear ha1 hb1
  go_wp2_with (first | (go_at_call 53; go_in) | (go_at_call 69; go_in) | (go_at_call 70; go_in) | (go_at_call 107; go_in))
  go_ret
  exact ⟨rfl, (HB1.out.alloc HB1.out.size _)⟩
set_option maxRecDepth 100000 in
theorem zzBytes_ii (ao bo : Option Addr) (n m c1 c2 : Nat) (hn : n ≤ 9223372036854775807) (hm : m ≤ 9223372036854775807) (w : World) :
    Calls Tryz.prog 28 #[.slice ao n c1, .slice bo m c2] w (Ret (.bool (decide (n + m ≤ 1048576))) w) := by
  by_cases h1 : n ≤ 1048576
  · by_cases h2 : m ≤ 1048576
    · by_cases h3 : n + m ≤ 1048576
      · go_enter Tryz.func28, Tryz.ntmps28
        go_wp2
        go_ret
        exact ⟨ret_bool (by simp [h3]), rfl⟩
      · have h3' : 1048576 < n + m := by omega
        go_enter Tryz.func28, Tryz.ntmps28
        go_wp2
        go_ret
        exact ⟨ret_bool (by simp [h3]), rfl⟩
    · have h2' : 1048576 < m := by omega
      go_enter Tryz.func28, Tryz.ntmps28
      go_wp2
      go_ret
      exact ⟨ret_bool (by simp; omega), rfl⟩
  · have h1' : 1048576 < n := by omega
    go_enter Tryz.func28, Tryz.ntmps28
    go_wp2
    go_ret
    exact ⟨ret_bool (by simp; omega), rfl⟩
theorem zzBytes_yes (ao bo : Option Addr) (n m c1 c2 : Nat) (h : n + m ≤ 1048576) (w : World) :
    Calls Tryz.prog 28 #[.slice ao n c1, .slice bo m c2] w (Ret (.bool true) w) :=
  (zzBytes_ii ao bo n m c1 c2 (by omega) (by omega) w).mono fun _ _ ⟨h1, h2⟩ => ⟨by rw [h1, decide_eq_true h], h2⟩
/-- The ints of a slice laid anew. -/
theorem run_copy_ints (ao : Option Addr) (cap : Nat) (zs : List Int) (w : World) (n : Nat) (hn : zs.length = n) (a0 : Addr) (hao : ao = some a0) (hs : IntsArg w ao cap zs) (t1 t2 ty : TypeId) (ht : Tryz.prog.underlying t1 = some (.slice 3)) :
    (Builtin.copy_ #[t1, t2] ty #[.slice (some ⟨w.heap.size, 0, none⟩) n n, .slice ao n cap]).run Tryz.prog (w.alloc (.cells (copied zs 0) 3)) = .ok (goInt n) (w.alloc (.cells (copied zs n) 3)) := by
  subst hao hn
  have hlen : (zs.map (Value.int .i64)).length = zs.length := by simp
  have := run_copy_row (P := Tryz.prog) (w.alloc (.cells (copied zs 0) 3)) t1 t2 ty 3 w.heap.size 0 zs.length zs.length a0 zs.length cap (copied zs 0) 3 (zs.map (Value.int .i64)) ht (by kernel_rfl)
    (heap_alloc_new w _) (by simp) ?_ (by simp [copied]) (by intro v hv; obtain ⟨z, _, rfl⟩ := List.mem_map.1 hv; rfl)
  · rw [this, hlen, Go.World.setRow_alloc_new]
    have e : (List.take 0 (copied zs 0).toList ++ zs.map (Value.int .i64) ++ List.drop (0 + zs.length) (copied zs 0).toList).toArray = copied zs zs.length := by
      apply Array.ext'
      simp [copied]
    rw [e]
  · intro j v hj
    have hjl : j < zs.length := by
      have := (List.getElem?_eq_some_iff.1 hj).1
      simpa using this
    obtain ⟨b, off, e, hc⟩ := hs.at' j hjl
    cases e
    have hb : b < w.heap.size := World.block_lt_of_cell? _ _ hc
    have e2 : (⟨b, off, none⟩ : Addr).add j = ⟨b, off + j, none⟩ := by unfold Addr.add; simp
    rw [e2, World.cell?_alloc_lt (h := hb), hc]
    have e3 : v = .int .i64 zs[j] := by
      have := (List.getElem?_eq_some_iff.1 hj).2
      rw [List.getElem_map] at this
      exact this.symm
    rw [e3]
    simp [geti, List.getD_eq_getElem?_getD, List.getElem?_eq_getElem hjl]
theorem ints_copied (w : World) (zs : List Int) : IntsArg (w.alloc (.cells (copied zs zs.length) 3)) (some ⟨w.heap.size, 0, none⟩) zs.length zs :=
  ⟨fun h => by simp at h, fun k hk => ⟨_, _, rfl, by rw [cell_new, copied_all zs k hk]⟩⟩

theorem allIn_perm {x L : List Int} (h : L.Perm x) (e : Int) : L.contains e = x.contains e := by
  rw [Bool.eq_iff_iff, List.contains_iff_mem, List.contains_iff_mem]; exact h.mem_iff
theorem allIn_take (x v : List Int) (k : Nat) (h : k < v.length) : allIn x (v.take (k + 1)) = (allIn x (v.take k) && x.contains (geti v k)) := by
  unfold allIn
  rw [List.take_succ_eq_append_getElem h, List.all_append]
  simp [geti, List.getD_eq_getElem?_getD, List.getElem?_eq_getElem h]
theorem cells_sorted (w : World) (L : List Int) (n : Nat) (hn : L.length = n) (nq : Nat) : ∀ k, k < n → ((w.alloc (.cells (intsArr L) 3)).drewN nq).cell? ⟨w.heap.size, 0 + k, none⟩ = some (.int .i64 (geti L k)) := fun k hk => by
  rw [World.cell?_drewN, cell_new, intsArr_get L k (by omega)]

set_option maxRecDepth 100000 in
set_option maxHeartbeats 3200000 in
theorem lawIns_nn (v_cap x_cap : Nat) (v x : List Int) (w : World) (hv : v.length ≤ 4096) (hx : x.length ≤ 4096) (hvs : IntsArg w none v_cap v) (hxs : IntsArg w none x_cap x) :
    Calls Tryz.prog 8 #[.slice none v.length v_cap, .slice none x.length x_cap] w (RetB (.bool true) w) := by
  obtain ⟨rfl, rfl⟩ := hvs.nil rfl
  have nqv := fun wx => run_neq_slice_nil (P := Tryz.prog) wx 34 3 none 0 0 Tryz.underlying34
  obtain ⟨rfl, rfl⟩ := hxs.nil rfl
  have nqx := fun wx => run_neq_slice_nil (P := Tryz.prog) wx 34 3 none 0 0 Tryz.underlying34
  have HB0 := Lib.hid (show Below w.heap.size w w from (Below.refl _ _))
  have HVS := Lib.hid (show IntsArg w none 0 ([] : List Int) from ⟨fun _ => ⟨rfl, rfl⟩, fun k hk => by simp at hk⟩)
  have HXS := Lib.hid (show IntsArg w none 0 ([] : List Int) from ⟨fun _ => ⟨rfl, rfl⟩, fun k hk => by simp at hk⟩)
  clear hvs hxs
  go_enter Tryz.func8, Tryz.ntmps8
  go_wp2_with (go_at_call 28; refine (zzBytes_yes _ _ _ _ _ _ (by first | omega | (simp; omega)) _).mono ?_; rintro e w' ⟨rfl, rfl⟩)
  go_wp2_with fail
  refine (zz_insideInts none none 0 0 ([] : List Int) ([] : List Int) _ (by first | omega | simp) (by first | omega | simp) HVS.out HXS.out).mono ?_
  rintro e w1 ⟨rfl, hb1⟩
  have HB1 := Lib.hid hb1
  have HV1 := Lib.hid (HVS.out.below hb1)
  have HX1 := Lib.hid (HXS.out.below hb1)
  clear hb1
  go_wp2_with fail
  refine (sortedCopy_any none 0 ([] : List Int) _ (by first | omega | simp) HX1.out).mono ?_
  rintro e w2 ⟨L, hp, hsrt, rfl, nq, rfl⟩
  have HP := Lib.hid hp
  have HS := Lib.hid hsrt
  have HL := Lib.hid hp.length_eq
  have HV2 := Lib.hid (HV1.out.below ((Below.refl _ _).alloc (Nat.le_refl _) (.cells (intsArr L) 3)))
  have HX2 := Lib.hid (HX1.out.below ((Below.refl _ _).alloc (Nat.le_refl _) (.cells (intsArr L) 3)))
  clear hp hsrt
  go_wp2
  go_loopw [10, 11] (fun t i wr => ∃ (k nq : Nat), k ≤ ([] : List Int).length ∧ i = .int .i64 k ∧ t = .bool (allIn ([] : List Int) (([] : List Int).take k)) ∧ wr = (w1.alloc (.cells (intsArr L) 3)).drewN nq) (fun _ i _ => ([] : List Int).length - (intOf i).toNat)
  case atStart => exact ⟨0, nq, Nat.zero_le _, rfl, rfl, rfl⟩
  case round =>
    obtain ⟨k, nq, hk, rfl, rfl, rfl⟩ := hrel
    by_cases hlt : k < ([] : List Int).length
    · exact absurd hlt (by simp)
    · have hT : ([] : List Int).take k = ([] : List Int) := List.take_of_length_le (by omega)
      rw [hT]
      clear hT
      have hbn : (allIn ([] : List Int) ([] : List Int) != allIn ([] : List Int) ([] : List Int)) = false := by simp
      go_wp2_with fail
      refine (zz_insideStrInts _ none 0 ([] : List Int) _ (by first | omega | simp) (show IntsArg ((w1.alloc (.cells (intsArr L) 3)).drewN nq) _ _ _ from ⟨HX2.out.nil, HX2.out.at'⟩)).mono ?_
      rintro e w3 ⟨rfl, hb3⟩
      have HB3 := Lib.hid hb3
      clear hb3
      go_wp2
      go_ret
      exact ⟨rfl, (((HB0.out.trans (HB1.out.mono HB0.out.size)).alloc (Nat.le_trans HB0.out.size HB1.out.size) _).trans (below_drewN (Below.refl _ _) nq)).trans (HB3.out.mono (by have h1 := HB0.out.size; have h2 := HB1.out.size; simp; omega))⟩

set_option maxRecDepth 100000 in
set_option maxHeartbeats 3200000 in
theorem lawIns_ns (xa : Addr) (v_cap x_cap : Nat) (v x : List Int) (w : World) (hv : v.length ≤ 4096) (hx : x.length ≤ 4096) (hvs : IntsArg w none v_cap v) (hxs : IntsArg w (some xa) x_cap x) :
    Calls Tryz.prog 8 #[.slice none v.length v_cap, .slice (some xa) x.length x_cap] w (RetB (.bool true) w) := by
  obtain ⟨rfl, rfl⟩ := hvs.nil rfl
  have nqv := fun wx => run_neq_slice_nil (P := Tryz.prog) wx 34 3 none 0 0 Tryz.underlying34
  have hxs1 : IntsArg w (some xa) x_cap x := hxs
  have mkx := makeInts_any w x.length x rfl (by omega)
  have cpx := fun ty => run_copy_ints (some xa) x_cap x w x.length rfl xa rfl hxs1 34 34 ty Tryz.underlying34
  have nqx := fun wx => run_neq_slice_nil (P := Tryz.prog) wx 34 3 (some xa) x.length x_cap Tryz.underlying34
  have HB0 := Lib.hid (show Below w.heap.size w (w.alloc (.cells (copied x x.length) 3)) from ((Below.refl _ _).alloc (Nat.le_refl _) _))
  have HVS := Lib.hid (show IntsArg (w.alloc (.cells (copied x x.length) 3)) none 0 ([] : List Int) from ⟨fun _ => ⟨rfl, rfl⟩, fun k hk => by simp at hk⟩)
  have HXS := Lib.hid (show IntsArg (w.alloc (.cells (copied x x.length) 3)) (some ⟨w.heap.size, 0, none⟩) x.length x from ints_copied w x)
  clear hvs hxs hxs1
  go_enter Tryz.func8, Tryz.ntmps8
  go_wp2_with (go_at_call 28; refine (zzBytes_yes _ _ _ _ _ _ (by first | omega | (simp; omega)) _).mono ?_; rintro e w' ⟨rfl, rfl⟩)
  go_wp2_with fail
  refine (zz_insideInts none (some ⟨w.heap.size, 0, none⟩) 0 x.length ([] : List Int) x _ (by first | omega | simp) (by first | omega | simp) HVS.out HXS.out).mono ?_
  rintro e w1 ⟨rfl, hb1⟩
  have HB1 := Lib.hid hb1
  have HV1 := Lib.hid (HVS.out.below hb1)
  have HX1 := Lib.hid (HXS.out.below hb1)
  clear hb1
  go_wp2_with fail
  refine (sortedCopy_any (some ⟨w.heap.size, 0, none⟩) x.length x _ (by first | omega | simp) HX1.out).mono ?_
  rintro e w2 ⟨L, hp, hsrt, rfl, nq, rfl⟩
  have HP := Lib.hid hp
  have HS := Lib.hid hsrt
  have HL := Lib.hid hp.length_eq
  have HV2 := Lib.hid (HV1.out.below ((Below.refl _ _).alloc (Nat.le_refl _) (.cells (intsArr L) 3)))
  have HX2 := Lib.hid (HX1.out.below ((Below.refl _ _).alloc (Nat.le_refl _) (.cells (intsArr L) 3)))
  clear hp hsrt
  go_wp2
  go_loopw [10, 11] (fun t i wr => ∃ (k nq : Nat), k ≤ ([] : List Int).length ∧ i = .int .i64 k ∧ t = .bool (allIn x (([] : List Int).take k)) ∧ wr = (w1.alloc (.cells (intsArr L) 3)).drewN nq) (fun _ i _ => ([] : List Int).length - (intOf i).toNat)
  case atStart => exact ⟨0, nq, Nat.zero_le _, rfl, rfl, rfl⟩
  case round =>
    obtain ⟨k, nq, hk, rfl, rfl, rfl⟩ := hrel
    by_cases hlt : k < ([] : List Int).length
    · exact absurd hlt (by simp)
    · have hT : ([] : List Int).take k = ([] : List Int) := List.take_of_length_le (by omega)
      rw [hT]
      clear hT
      have hbn : (allIn x ([] : List Int) != allIn x ([] : List Int)) = false := by simp
      go_wp2_with fail
      refine (zz_insideStrInts _ (some ⟨w.heap.size, 0, none⟩) x.length x _ (by first | omega | simp) (show IntsArg ((w1.alloc (.cells (intsArr L) 3)).drewN nq) _ _ _ from ⟨HX2.out.nil, HX2.out.at'⟩)).mono ?_
      rintro e w3 ⟨rfl, hb3⟩
      have HB3 := Lib.hid hb3
      clear hb3
      go_wp2
      go_ret
      exact ⟨rfl, (((HB0.out.trans (HB1.out.mono HB0.out.size)).alloc (Nat.le_trans HB0.out.size HB1.out.size) _).trans (below_drewN (Below.refl _ _) nq)).trans (HB3.out.mono (by have h1 := HB0.out.size; have h2 := HB1.out.size; simp; omega))⟩

set_option maxRecDepth 100000 in
set_option maxHeartbeats 3200000 in
theorem lawIns_sn (va : Addr) (v_cap x_cap : Nat) (v x : List Int) (w : World) (hv : v.length ≤ 4096) (hx : x.length ≤ 4096) (hvs : IntsArg w (some va) v_cap v) (hxs : IntsArg w none x_cap x) :
    Calls Tryz.prog 8 #[.slice (some va) v.length v_cap, .slice none x.length x_cap] w (RetB (.bool true) w) := by
  have mkv := makeInts_any w v.length v rfl (by omega)
  have cpv := fun ty => run_copy_ints (some va) v_cap v w v.length rfl va rfl hvs 34 34 ty Tryz.underlying34
  have nqv := fun wx => run_neq_slice_nil (P := Tryz.prog) wx 34 3 (some va) v.length v_cap Tryz.underlying34
  obtain ⟨rfl, rfl⟩ := hxs.nil rfl
  have nqx := fun wx => run_neq_slice_nil (P := Tryz.prog) wx 34 3 none 0 0 Tryz.underlying34
  have HB0 := Lib.hid (show Below w.heap.size w (w.alloc (.cells (copied v v.length) 3)) from ((Below.refl _ _).alloc (Nat.le_refl _) _))
  have HVS := Lib.hid (show IntsArg (w.alloc (.cells (copied v v.length) 3)) (some ⟨w.heap.size, 0, none⟩) v.length v from ints_copied w v)
  have HXS := Lib.hid (show IntsArg (w.alloc (.cells (copied v v.length) 3)) none 0 ([] : List Int) from ⟨fun _ => ⟨rfl, rfl⟩, fun k hk => by simp at hk⟩)
  clear hvs hxs
  go_enter Tryz.func8, Tryz.ntmps8
  go_wp2_with (go_at_call 28; refine (zzBytes_yes _ _ _ _ _ _ (by first | omega | (simp; omega)) _).mono ?_; rintro e w' ⟨rfl, rfl⟩)
  go_wp2_with fail
  refine (zz_insideInts (some ⟨w.heap.size, 0, none⟩) none v.length 0 v ([] : List Int) _ (by first | omega | simp) (by first | omega | simp) HVS.out HXS.out).mono ?_
  rintro e w1 ⟨rfl, hb1⟩
  have HB1 := Lib.hid hb1
  have HV1 := Lib.hid (HVS.out.below hb1)
  have HX1 := Lib.hid (HXS.out.below hb1)
  clear hb1
  go_wp2_with fail
  refine (sortedCopy_any none 0 ([] : List Int) _ (by first | omega | simp) HX1.out).mono ?_
  rintro e w2 ⟨L, hp, hsrt, rfl, nq, rfl⟩
  have HP := Lib.hid hp
  have HS := Lib.hid hsrt
  have HL := Lib.hid hp.length_eq
  have HV2 := Lib.hid (HV1.out.below ((Below.refl _ _).alloc (Nat.le_refl _) (.cells (intsArr L) 3)))
  have HX2 := Lib.hid (HX1.out.below ((Below.refl _ _).alloc (Nat.le_refl _) (.cells (intsArr L) 3)))
  clear hp hsrt
  go_wp2
  go_loopw [10, 11] (fun t i wr => ∃ (k nq : Nat), k ≤ v.length ∧ i = .int .i64 k ∧ t = .bool (allIn ([] : List Int) (v.take k)) ∧ wr = (w1.alloc (.cells (intsArr L) 3)).drewN nq) (fun _ i _ => v.length - (intOf i).toNat)
  case atStart => exact ⟨0, nq, Nat.zero_le _, rfl, rfl, rfl⟩
  case round =>
    obtain ⟨k, nq, hk, rfl, rfl, rfl⟩ := hrel
    by_cases hlt : k < v.length
    · obtain ⟨b, off, hao, hc⟩ := HV1.out.at' k hlt
      cases hao
      have hcw : w1.cell? ⟨w.heap.size, k, none⟩ = some (.int .i64 (geti v k)) := by simpa using hc
      have hbw : w.heap.size < w1.heap.size := World.block_lt_of_cell? _ _ hc
      clear hc
      have HT := Lib.hid (allIn_take ([] : List Int) v k hlt)
      have HM := Lib.hid (allIn_perm HP.out (geti v k))
      have hm : ([] : List Int).contains (geti v k) = false := by simp
      · have HH := Lib.hid hm
        clear hm
        go_wp2_with (go_at_call 31; refine (member_any _ L _ _ _ HL.out (by first | omega | simp) HS.out (cells_sorted w1 L _ HL.out _)).mono ?_; rintro e w' ⟨rfl, nq', rfl⟩; rw [HM.out, HH.out])
        go_roundw
        case rel => exact ⟨k + 1, _, by omega, by go_num, by rw [HT.out, HH.out, Bool.and_false], rfl⟩
        case measure => simp [intOf]; omega
    · have hT : v.take k = v := List.take_of_length_le (by omega)
      rw [hT]
      clear hT
      have hbn : (allIn ([] : List Int) v != allIn ([] : List Int) v) = false := by simp
      go_wp2_with fail
      refine (zz_insideStrInts _ none 0 ([] : List Int) _ (by first | omega | simp) (show IntsArg ((w1.alloc (.cells (intsArr L) 3)).drewN nq) _ _ _ from ⟨HX2.out.nil, HX2.out.at'⟩)).mono ?_
      rintro e w3 ⟨rfl, hb3⟩
      have HB3 := Lib.hid hb3
      clear hb3
      go_wp2
      go_ret
      exact ⟨rfl, (((HB0.out.trans (HB1.out.mono HB0.out.size)).alloc (Nat.le_trans HB0.out.size HB1.out.size) _).trans (below_drewN (Below.refl _ _) nq)).trans (HB3.out.mono (by have h1 := HB0.out.size; have h2 := HB1.out.size; simp; omega))⟩

set_option maxRecDepth 100000 in
set_option maxHeartbeats 3200000 in
theorem lawIns_ss (va : Addr) (xa : Addr) (v_cap x_cap : Nat) (v x : List Int) (w : World) (hv : v.length ≤ 4096) (hx : x.length ≤ 4096) (hvs : IntsArg w (some va) v_cap v) (hxs : IntsArg w (some xa) x_cap x) :
    Calls Tryz.prog 8 #[.slice (some va) v.length v_cap, .slice (some xa) x.length x_cap] w (RetB (.bool true) w) := by
  have mkv := makeInts_any w v.length v rfl (by omega)
  have cpv := fun ty => run_copy_ints (some va) v_cap v w v.length rfl va rfl hvs 34 34 ty Tryz.underlying34
  have nqv := fun wx => run_neq_slice_nil (P := Tryz.prog) wx 34 3 (some va) v.length v_cap Tryz.underlying34
  have hxs1 : IntsArg (w.alloc (.cells (copied v v.length) 3)) (some xa) x_cap x := hxs.below ((Below.refl _ _).alloc (Nat.le_refl _) _)
  have mkx := makeInts_any (w.alloc (.cells (copied v v.length) 3)) x.length x rfl (by omega)
  have cpx := fun ty => run_copy_ints (some xa) x_cap x (w.alloc (.cells (copied v v.length) 3)) x.length rfl xa rfl hxs1 34 34 ty Tryz.underlying34
  have nqx := fun wx => run_neq_slice_nil (P := Tryz.prog) wx 34 3 (some xa) x.length x_cap Tryz.underlying34
  have hsz1 : (w.alloc (.cells (copied v v.length) 3)).heap.size = w.heap.size + 1 := by simp
  rw [hsz1] at mkx cpx
  clear hsz1
  have HB0 := Lib.hid (show Below w.heap.size w ((w.alloc (.cells (copied v v.length) 3)).alloc (.cells (copied x x.length) 3)) from (((Below.refl _ _).alloc (Nat.le_refl _) _).alloc (by simp) _))
  have HVS := Lib.hid (show IntsArg ((w.alloc (.cells (copied v v.length) 3)).alloc (.cells (copied x x.length) 3)) (some ⟨w.heap.size, 0, none⟩) v.length v from (ints_copied w v).below ((Below.refl _ _).alloc (Nat.le_refl _) _))
  have HXS := Lib.hid (show IntsArg ((w.alloc (.cells (copied v v.length) 3)).alloc (.cells (copied x x.length) 3)) (some ⟨w.heap.size + 1, 0, none⟩) x.length x from by have := ints_copied (w.alloc (.cells (copied v v.length) 3)) x; rwa [show (w.alloc (.cells (copied v v.length) 3)).heap.size = w.heap.size + 1 from by simp] at this)
  clear hvs hxs hxs1
  go_enter Tryz.func8, Tryz.ntmps8
  go_wp2_with (go_at_call 28; refine (zzBytes_yes _ _ _ _ _ _ (by first | omega | (simp; omega)) _).mono ?_; rintro e w' ⟨rfl, rfl⟩)
  go_wp2_with fail
  refine (zz_insideInts (some ⟨w.heap.size, 0, none⟩) (some ⟨w.heap.size + 1, 0, none⟩) v.length x.length v x _ (by first | omega | simp) (by first | omega | simp) HVS.out HXS.out).mono ?_
  rintro e w1 ⟨rfl, hb1⟩
  have HB1 := Lib.hid hb1
  have HV1 := Lib.hid (HVS.out.below hb1)
  have HX1 := Lib.hid (HXS.out.below hb1)
  clear hb1
  go_wp2_with fail
  refine (sortedCopy_any (some ⟨w.heap.size + 1, 0, none⟩) x.length x _ (by first | omega | simp) HX1.out).mono ?_
  rintro e w2 ⟨L, hp, hsrt, rfl, nq, rfl⟩
  have HP := Lib.hid hp
  have HS := Lib.hid hsrt
  have HL := Lib.hid hp.length_eq
  have HV2 := Lib.hid (HV1.out.below ((Below.refl _ _).alloc (Nat.le_refl _) (.cells (intsArr L) 3)))
  have HX2 := Lib.hid (HX1.out.below ((Below.refl _ _).alloc (Nat.le_refl _) (.cells (intsArr L) 3)))
  clear hp hsrt
  go_wp2
  go_loopw [10, 11] (fun t i wr => ∃ (k nq : Nat), k ≤ v.length ∧ i = .int .i64 k ∧ t = .bool (allIn x (v.take k)) ∧ wr = (w1.alloc (.cells (intsArr L) 3)).drewN nq) (fun _ i _ => v.length - (intOf i).toNat)
  case atStart => exact ⟨0, nq, Nat.zero_le _, rfl, rfl, rfl⟩
  case round =>
    obtain ⟨k, nq, hk, rfl, rfl, rfl⟩ := hrel
    by_cases hlt : k < v.length
    · obtain ⟨b, off, hao, hc⟩ := HV1.out.at' k hlt
      cases hao
      have hcw : w1.cell? ⟨w.heap.size, k, none⟩ = some (.int .i64 (geti v k)) := by simpa using hc
      have hbw : w.heap.size < w1.heap.size := World.block_lt_of_cell? _ _ hc
      clear hc
      have HT := Lib.hid (allIn_take x v k hlt)
      have HM := Lib.hid (allIn_perm HP.out (geti v k))
      cases hm : x.contains (geti v k) with
      | true =>
        
        have HH := Lib.hid hm
        clear hm
        go_wp2_with (go_at_call 31; refine (member_any _ L _ _ _ HL.out (by first | omega | simp) HS.out (cells_sorted w1 L _ HL.out _)).mono ?_; rintro e w' ⟨rfl, nq', rfl⟩; rw [HM.out, HH.out])
        go_roundw
        case rel => exact ⟨k + 1, _, by omega, by go_num, by rw [HT.out, HH.out, Bool.and_true], rfl⟩
        case measure => simp [intOf]; omega
      | false =>
        have HH := Lib.hid hm
        clear hm
        go_wp2_with (go_at_call 31; refine (member_any _ L _ _ _ HL.out (by first | omega | simp) HS.out (cells_sorted w1 L _ HL.out _)).mono ?_; rintro e w' ⟨rfl, nq', rfl⟩; rw [HM.out, HH.out])
        go_roundw
        case rel => exact ⟨k + 1, _, by omega, by go_num, by rw [HT.out, HH.out, Bool.and_false], rfl⟩
        case measure => simp [intOf]; omega
    · have hT : v.take k = v := List.take_of_length_le (by omega)
      rw [hT]
      clear hT
      have hbn : (allIn x v != allIn x v) = false := by simp
      go_wp2_with fail
      refine (zz_insideStrInts _ (some ⟨w.heap.size + 1, 0, none⟩) x.length x _ (by first | omega | simp) (show IntsArg ((w1.alloc (.cells (intsArr L) 3)).drewN nq) _ _ _ from ⟨HX2.out.nil, HX2.out.at'⟩)).mono ?_
      rintro e w3 ⟨rfl, hb3⟩
      have HB3 := Lib.hid hb3
      clear hb3
      go_wp2
      go_ret
      exact ⟨rfl, (((HB0.out.trans (HB1.out.mono HB0.out.size)).alloc (Nat.le_trans HB0.out.size HB1.out.size) _).trans (below_drewN (Below.refl _ _) nq)).trans (HB3.out.mono (by have h1 := HB0.out.size; have h2 := HB1.out.size; simp; omega))⟩

set_option maxRecDepth 100000 in
theorem lawInsideInts (v_ao x_ao : Option Addr) (v_cap x_cap : Nat) (v x : List Int) (w : World) (hvb : v.length ≤ 9223372036854775807) (hxb : x.length ≤ 9223372036854775807) (hvs : IntsArg w v_ao v_cap v) (hxs : IntsArg w x_ao x_cap x) :
    Calls Tryz.prog 8 #[.slice v_ao v.length v_cap, .slice x_ao x.length x_cap] w (RetB (.bool true) w) := by
  by_cases h3 : v.length + x.length ≤ 1048576
  · by_cases h4 : v.length ≤ 4096 ∧ x.length ≤ 4096
    · obtain ⟨h4, h5⟩ := h4
      cases v_ao <;> cases x_ao
      · exact lawIns_nn v_cap x_cap v x w h4 h5 hvs hxs
      · exact lawIns_ns _ v_cap x_cap v x w h4 h5 hvs hxs
      · exact lawIns_sn _ v_cap x_cap v x w h4 h5 hvs hxs
      · exact lawIns_ss _ _ v_cap x_cap v x w h4 h5 hvs hxs
    · clear hvs hxs
      go_enter Tryz.func8, Tryz.ntmps8
      go_wp2_with (go_at_call 28; refine (zzBytes_ii _ _ _ _ _ _ hvb hxb _).mono ?_; rintro e w' ⟨rfl, rfl⟩)
      all_goals (go_ret; exact ⟨rfl, Below.refl _ _⟩)
  · have h3' : 1048576 < v.length + x.length := by omega
    clear hvs hxs
    go_enter Tryz.func8, Tryz.ntmps8
    go_wp2_with (go_at_call 28; refine (zzBytes_ii _ _ _ _ _ _ hvb hxb _).mono ?_; rintro e w' ⟨rfl, rfl⟩)
    go_ret
    exact ⟨rfl, Below.refl _ _⟩
end Go.Proofs.YtlhkbdeceogjgaaGreatDoor
