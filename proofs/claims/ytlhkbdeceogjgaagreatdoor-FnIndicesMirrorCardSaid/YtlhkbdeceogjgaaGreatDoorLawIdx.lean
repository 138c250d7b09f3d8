/- The law on the mirror of indices, walked. Conditions: none. -/
import Derived.Test.YtlhkbdeceogjgaaGreatDoorFrom
import Derived.Laws.CopyRow
import Derived.Deep.WholeRow
namespace Go.Proofs.YtlhkbdeceogjgaaGreatDoor
open Go.RowKit Go
theorem ret_bool {b c : Bool} (h : b = c) : Ending.returned (.bool b) = .returned (.bool c) := by rw [h]
/-- It returns v; of what was there nothing has changed. -/
def RetB (v : Value) (w : World) (e : Ending) (w' : World) : Prop := e = .returned v ∧ Below w.heap.size w w'
set_option maxRecDepth 100000 in
theorem zzBytes_ii (ao bo : Option Addr) (n m c1 c2 : Nat) (hn : n ≤ 9223372036854775807) (hm : m ≤ 9223372036854775807) (w : World) :
    Calls Tryz.prog 22 #[.slice ao n c1, .slice bo m c2] w (Ret (.bool (decide (n + m ≤ 1048576))) w) := by
  by_cases h1 : n ≤ 1048576
  · by_cases h2 : m ≤ 1048576
    · by_cases h3 : n + m ≤ 1048576
      · go_enter Tryz.func22, Tryz.ntmps22
        go_wp2
        go_ret
        exact ⟨ret_bool (by simp [h3]), rfl⟩
      · have h3' : 1048576 < n + m := by omega
        go_enter Tryz.func22, Tryz.ntmps22
        go_wp2
        go_ret
        exact ⟨ret_bool (by simp [h3]), rfl⟩
    · have h2' : 1048576 < m := by omega
      go_enter Tryz.func22, Tryz.ntmps22
      go_wp2
      go_ret
      exact ⟨ret_bool (by simp; omega), rfl⟩
  · have h1' : 1048576 < n := by omega
    go_enter Tryz.func22, Tryz.ntmps22
    go_wp2
    go_ret
    exact ⟨ret_bool (by simp; omega), rfl⟩
theorem zzBytes_yes (ao bo : Option Addr) (n m c1 c2 : Nat) (h : n + m ≤ 1048576) (w : World) :
    Calls Tryz.prog 22 #[.slice ao n c1, .slice bo m c2] w (Ret (.bool true) w) :=
  (zzBytes_ii ao bo n m c1 c2 (by omega) (by omega) w).mono fun _ _ ⟨h1, h2⟩ => ⟨by rw [h1, decide_eq_true h], h2⟩
/-- The ints of a slice laid anew. -/
theorem run_copy_ints (ao : Option Addr) (cap : Nat) (zs : List Int) (w : World) (n : Nat) (hn : zs.length = n) (a0 : Addr) (hao : ao = some a0) (hs : IntsArg w ao cap zs) (t1 t2 ty : TypeId) (ht : Tryz.prog.underlying t1 = some (.slice 3)) :
    (Builtin.copy_ #[t1, t2] ty #[.slice (some ⟨w.heap.size, 0, none⟩) n n, .slice ao n cap]).run Tryz.prog (w.alloc (.cells (copied zs 0) 3)) = .ok (goInt n) (w.alloc (.cells (copied zs n) 3)) := by
  subst hao hn
  have hlen : (zs.map (Value.int .i64)).length = zs.length := by simp
  have := run_copy_row (P := Tryz.prog) (w.alloc (.cells (copied zs 0) 3)) t1 t2 ty 3 w.heap.size 0 zs.length zs.length a0 zs.length cap (copied zs 0) 3 (zs.map (Value.int .i64)) ht (by kernel_rfl)
    (heap_alloc_new w _) (by simp) ?_ (by simp [copied]) (by intro v hv; obtain ⟨z, _, rfl⟩ := List.mem_map.1 hv; rfl)
  · rw [this, hlen, Go.World.setRow_alloc_new]
    have e : (List.take 0 (copied zs 0).toList ++ zs.map (Value.int .i64) ++ List.drop (0 + zs.length) (copied zs 0).toList).toArray = copied zs zs.length := by
      apply Array.ext'
      simp [copied]
    rw [e]
  · intro j v hj
    have hjl : j < zs.length := by
      have := (List.getElem?_eq_some_iff.1 hj).1
      simpa using this
    obtain ⟨b, off, e, hc⟩ := hs.at' j hjl
    cases e
    have hb : b < w.heap.size := World.block_lt_of_cell? _ _ hc
    have e2 : (⟨b, off, none⟩ : Addr).add j = ⟨b, off + j, none⟩ := by unfold Addr.add; simp
    rw [e2, World.cell?_alloc_lt (h := hb), hc]
    have e3 : v = .int .i64 zs[j] := by
      have := (List.getElem?_eq_some_iff.1 hj).2
      rw [List.getElem_map] at this
      exact this.symm
    rw [e3]
    simp [geti, List.getD_eq_getElem?_getD, List.getElem?_eq_getElem hjl]
theorem ints_copied (w : World) (zs : List Int) : IntsArg (w.alloc (.cells (copied zs zs.length) 3)) (some ⟨w.heap.size, 0, none⟩) zs.length zs :=
  ⟨fun h => by simp at h, fun k hk => ⟨_, _, rfl, by rw [cell_new, copied_all zs k hk]⟩⟩
/-- The ints in turned order, k of them laid. -/
def revd (zs : List Int) (k : Nat) : Array Value := (List.replicate (zs.length - k) (Value.int .i64 0) ++ ((zs.take k).reverse).map (Value.int .i64)).toArray
theorem revd_zero (zs : List Int) : copied zs 0 = revd zs 0 := by simp [copied, revd]
theorem revd_set (zs : List Int) (k : Nat) (h : k < zs.length) : (revd zs k).setIfInBounds (zs.length - 1 - k) (.int .i64 (geti zs k)) = revd zs (k + 1) := by
  apply Array.ext'
  simp only [revd, List.setIfInBounds_toArray]
  have e : zs.length - k = (zs.length - (k + 1)) + 1 := by omega
  have e2 : zs.length - 1 - k = (List.replicate (zs.length - (k + 1)) (Value.int .i64 0)).length := by simp; omega
  rw [e, List.replicate_succ', List.append_assoc, e2, List.set_append_right _ _ (Nat.le_refl _), Nat.sub_self, List.take_succ_eq_append_getElem h, List.reverse_append]
  simp [geti, List.getD_eq_getElem?_getD, List.getElem?_eq_getElem h]
theorem revd_size (zs : List Int) (k : Nat) (h : k ≤ zs.length) : (revd zs k).size = zs.length := by simp [revd]; omega
theorem revd_get (zs : List Int) (k j : Nat) (h : j < zs.length - k) : (revd zs k)[j]? = some (.int .i64 0) := by
  simp only [revd, List.getElem?_toArray]
  rw [List.getElem?_append_left (by simpa using h)]
  simp [h]
theorem ints_revd (w : World) (zs : List Int) : IntsArg (w.alloc (.cells (revd zs zs.length) 3)) (some ⟨w.heap.size, 0, none⟩) zs.length zs.reverse :=
  ⟨fun h => by simp at h, fun k hk => ⟨_, _, rfl, by
    have hk' : k < zs.length := by simpa using hk
    rw [cell_new]
    simp [revd, geti, List.getD_eq_getElem?_getD, hk']⟩⟩
/-! ### The mirror -/
theorem range_turn (N : Nat) : (List.range N).map (fun i => N - 1 - i) = (List.range N).reverse := by
  apply List.ext_getElem
  · simp
  · intro i h1 h2
    simp at h1
    simp
theorem piece_turn (vs xs : List Int) (i : Nat) (hm : 0 < xs.length) (hi : i < vs.length + 1 - xs.length) :
    ((vs.reverse.drop i).take xs.reverse.length == xs.reverse) = ((vs.drop (vs.length + 1 - xs.length - 1 - i)).take xs.length == xs) := by
  have e : (vs.reverse.drop i).take xs.reverse.length = ((vs.drop (vs.length + 1 - xs.length - 1 - i)).take xs.length).reverse := by
    rw [List.length_reverse, List.drop_reverse, List.take_reverse, List.length_take, Nat.min_eq_left (by omega), List.drop_take]
    congr 2
    · omega
    · congr 1; omega
  rw [e, Bool.eq_iff_iff, beq_iff_eq, beq_iff_eq]
  constructor
  · intro h; have := congrArg List.reverse h; simpa using this
  · intro h; rw [h]
theorem mirror (vs xs : List Int) : (offsAll vs.reverse xs.reverse).map (fun i => vs.length + 1 - xs.length - 1 - i) = (offsAll vs xs).reverse := by
  unfold offsAll
  by_cases h0 : xs.length = 0
  · rw [if_pos h0, if_pos (by simpa using h0)]; rfl
  · rw [if_neg h0, if_neg (by simpa using h0)]
    unfold offs
    rw [List.length_reverse, List.length_reverse]
    have e : (List.range (vs.length + 1 - xs.length)).filter (fun i => (vs.reverse.drop i).take xs.length == xs.reverse) = (List.range (vs.length + 1 - xs.length)).filter ((fun i => (vs.drop i).take xs.length == xs) ∘ fun i => vs.length + 1 - xs.length - 1 - i) := by
      apply List.filter_congr
      intro i hi
      have := piece_turn vs xs i (by omega) (by simpa using hi)
      rw [List.length_reverse] at this
      exact this
    rw [e, ← List.filter_map, range_turn, List.filter_reverse]
theorem mirror_length (vs xs : List Int) : (offsAll vs.reverse xs.reverse).length = (offsAll vs xs).length := by
  have := congrArg List.length (mirror vs xs)
  simpa using this
theorem offsAll_mem (vs xs : List Int) (i : Nat) (h : i ∈ offsAll vs xs) : i + xs.length ≤ vs.length := by
  unfold offsAll at h
  split at h
  · simp at h
  · unfold offs at h
    have := (List.mem_filter.1 h).1
    simp at this
    omega
theorem mirror_at (vs xs : List Int) (k : Nat) (hk : k < (offsAll vs xs).length) :
    geti (ofN (offsAll vs xs)) k = vs.length - xs.length - geti (ofN (offsAll vs.reverse xs.reverse)) ((offsAll vs xs).length - 1 - k) ∧ 0 ≤ geti (ofN (offsAll vs.reverse xs.reverse)) ((offsAll vs xs).length - 1 - k) ∧ geti (ofN (offsAll vs.reverse xs.reverse)) ((offsAll vs xs).length - 1 - k) ≤ vs.length := by
  have hl := mirror_length vs xs
  have hj : (offsAll vs xs).length - 1 - k < (offsAll vs.reverse xs.reverse).length := by omega
  have hm := offsAll_mem _ _ _ (List.getElem_mem hj)
  rw [List.length_reverse, List.length_reverse] at hm
  have e1 : (offsAll vs xs)[k] = vs.length + 1 - xs.length - 1 - (offsAll vs.reverse xs.reverse)[(offsAll vs xs).length - 1 - k] := by
    have h1 := mirror vs xs
    have h2 : (offsAll vs xs)[k] = ((offsAll vs xs).reverse)[(offsAll vs xs).length - 1 - k]'(by simp; omega) := by
      rw [List.getElem_reverse]
      congr 1
      omega
    rw [h2]
    have h3 := List.getElem_of_eq h1.symm (i := (offsAll vs xs).length - 1 - k) (by simp; omega)
    rw [h3, List.getElem_map]
  simp only [geti, ofN, List.getD_eq_getElem?_getD, List.getElem?_map, List.getElem?_eq_getElem hk, List.getElem?_eq_getElem hj, Option.map_some, Option.getD_some]
  rw [e1]
  omega
theorem zz_indices_n (n m : Nat) (v_ao x_ao : Option Addr) (v_cap x_cap : Nat) (vs xs : List Int) (w : World) (hn : vs.length = n) (hm : xs.length = m) (hv : n ≤ 4096) (hx : m ≤ 4096) (hvs : IntsArg w v_ao v_cap vs) (hxs : IntsArg w x_ao x_cap xs) :
    Calls Tryz.prog 23 #[.slice v_ao n v_cap, .slice x_ao m x_cap] w (ZPost vs xs w) := by
  subst hn hm
  exact zz_indices v_ao x_ao v_cap x_cap vs xs w hv hx hvs hxs

set_option maxRecDepth 100000 in
set_option maxHeartbeats 3200000 in
theorem lawIdx_nn (v_cap x_cap : Nat) (v x : List Int) (w : World) (hv : v.length ≤ 4096) (hx : x.length ≤ 4096) (hvs : IntsArg w none v_cap v) (hxs : IntsArg w none x_cap x) :
    Calls Tryz.prog 6 #[.slice none v.length v_cap, .slice none x.length x_cap] w (RetB (.bool true) w) := by
  obtain ⟨rfl, rfl⟩ := hvs.nil rfl
  have nqv := fun wx => run_neq_slice_nil (P := Tryz.prog) wx 34 3 none 0 0 Tryz.underlying34
  obtain ⟨rfl, rfl⟩ := hxs.nil rfl
  have nqx := fun wx => run_neq_slice_nil (P := Tryz.prog) wx 34 3 none 0 0 Tryz.underlying34
  have hB0 : Below w.heap.size w w := (Below.refl _ _)
  have hVS : IntsArg w none 0 ([] : List Int) := ⟨fun _ => ⟨rfl, rfl⟩, fun k hk => by simp at hk⟩
  have hXS : IntsArg w none 0 ([] : List Int) := ⟨fun _ => ⟨rfl, rfl⟩, fun k hk => by simp at hk⟩
  clear hvs hxs
  have nsz : w.heap.size = w.heap.size := by simp
  have nsz2 : (w.alloc (.cells (revd ([] : List Int) 0) 3)).heap.size = w.heap.size + 1 := by simp
  have mkrv : (Instr.makeSlice 34 (.int .i64 0) (.int .i64 0)).run Tryz.prog w = .ok (.slice (some ⟨w.heap.size, 0, none⟩) 0 0) (w.alloc (.cells (copied ([] : List Int) 0) 3)) := makeInts_any w 0 ([] : List Int) rfl (by omega)
  rw [revd_zero, nsz] at mkrv
  have mkrx : (Instr.makeSlice 34 (.int .i64 0) (.int .i64 0)).run Tryz.prog (w.alloc (.cells (revd ([] : List Int) 0) 3)) = .ok (.slice (some ⟨(w.alloc (.cells (revd ([] : List Int) 0) 3)).heap.size, 0, none⟩) 0 0) ((w.alloc (.cells (revd ([] : List Int) 0) 3)).alloc (.cells (copied ([] : List Int) 0) 3)) := makeInts_any (w.alloc (.cells (revd ([] : List Int) 0) 3)) 0 ([] : List Int) rfl (by omega)
  rw [revd_zero, nsz2] at mkrx
  have c3 : Below w.heap.size w (w.alloc (.cells (revd ([] : List Int) 0) 3)) := (Below.refl _ _).alloc (Nat.le_refl _) _
  have c4 : Below (w.alloc (.cells (revd ([] : List Int) 0) 3)).heap.size (w.alloc (.cells (revd ([] : List Int) 0) 3)) ((w.alloc (.cells (revd ([] : List Int) 0) 3)).alloc (.cells (revd ([] : List Int) 0) 3)) := (Below.refl _ _).alloc (Nat.le_refl _) _
  have hRV : IntsArg (w.alloc (.cells (revd ([] : List Int) 0) 3)) (some ⟨w.heap.size, 0, none⟩) 0 ([] : List Int).reverse := nsz ▸ ints_revd w ([] : List Int)
  have hRX : IntsArg ((w.alloc (.cells (revd ([] : List Int) 0) 3)).alloc (.cells (revd ([] : List Int) 0) 3)) (some ⟨w.heap.size + 1, 0, none⟩) 0 ([] : List Int).reverse := nsz2 ▸ ints_revd (w.alloc (.cells (revd ([] : List Int) 0) 3)) ([] : List Int)
  have HVS := Lib.hid ((hVS.below c3).below c4)
  have HXS := Lib.hid ((hXS.below c3).below c4)
  have HRV := Lib.hid (hRV.below c4)
  have HRX := Lib.hid hRX
  have HB0 := Lib.hid (show Below w.heap.size w ((w.alloc (.cells (revd ([] : List Int) 0) 3)).alloc (.cells (revd ([] : List Int) 0) 3)) from (hB0.trans (c3.mono hB0.size)).trans (c4.mono (by first | (simp; done) | (simp; omega))))
  clear hB0 hVS hXS nsz nsz2 c3 c4 hRV hRX
  go_enter Tryz.func6, Tryz.ntmps6
  go_wp2_with (go_at_call 22; refine (zzBytes_yes _ _ _ _ _ _ (by first | omega | (simp; omega)) _).mono ?_; rintro e w' ⟨rfl, rfl⟩)
  go_loopw [8] (fun i wr => ∃ k : Nat, k ≤ 0 ∧ i = .int .i64 k ∧ wr = w.alloc (.cells (revd ([] : List Int) k) 3)) (fun i _ => 0 - (intOf i).toNat)
  case atStart => exact ⟨0, Nat.zero_le _, rfl, rfl⟩
  case round =>
    obtain ⟨k, hk, rfl, rfl⟩ := hrel
    by_cases hlt : k < 0
    · exact absurd hlt (by simp)
    · obtain rfl : k = 0 := by omega
      go_wp2
      go_loopw [10] (fun i wr => ∃ k : Nat, k ≤ 0 ∧ i = .int .i64 k ∧ wr = (w.alloc (.cells (revd ([] : List Int) 0) 3)).alloc (.cells (revd ([] : List Int) k) 3)) (fun i _ => 0 - (intOf i).toNat)
      case atStart => exact ⟨0, Nat.zero_le _, rfl, rfl⟩
      case round =>
        obtain ⟨k, hk, rfl, rfl⟩ := hrel
        by_cases hlt : k < 0
        · exact absurd hlt (by simp)
        · obtain rfl : k = 0 := by omega
          go_wp2_with fail
          refine (zz_indices_n 0 0 none none 0 0 ([] : List Int) ([] : List Int) _ rfl rfl (by omega) (by omega) HVS.out HXS.out).mono ?_
          rintro e w1 ⟨g1, rfl, hg1, hc1, hb1⟩
          have HG1 := Lib.hid hg1
          have HC1 := Lib.hid hc1
          have HB1 := Lib.hid hb1
          have HRV1 := Lib.hid (HRV.out.below hb1)
          have HRX1 := Lib.hid (HRX.out.below hb1)
          clear hg1 hc1 hb1
          go_wp2_with fail
          refine (zz_indices_n 0 0 (some ⟨w.heap.size, 0, none⟩) (some ⟨w.heap.size + 1, 0, none⟩) 0 0 ([] : List Int).reverse ([] : List Int).reverse _ (by simp) (by simp) (by omega) (by omega) HRV1.out HRX1.out).mono ?_
          rintro e w2 ⟨g2, rfl, hg2, hc2, hb2⟩
          rw [mirror_length ([] : List Int) ([] : List Int)] at hc2 ⊢
          have hM := mirror_at ([] : List Int) ([] : List Int)
          have HLE := Lib.hid (offsAll_le ([] : List Int) ([] : List Int))
          generalize hcn : (offsAll ([] : List Int) ([] : List Int)).length = c at *
          have HCN := Lib.hid hcn
          have HM := Lib.hid hM
          have HC2 := Lib.hid hc2
          have HB2 := Lib.hid hb2
          have hcle : c ≤ 4097 := by have := HLE.out; omega
          clear hcn hM hg2 hc2 hb2
          go_wp2
          go_loopw [15] (fun i wr => ∃ (q nq : Nat), q ≤ c ∧ i = .int .i64 q ∧ wr = w2.drewN nq) (fun i _ => c - (intOf i).toNat)
          case atStart => exact ⟨0, 0, Nat.zero_le _, rfl, rfl⟩
          case round =>
            obtain ⟨q, nq, hq, rfl, rfl⟩ := hrel
            by_cases hqt : q < c
            · obtain ⟨j, hj⟩ : ∃ j, j = c - 1 - q := ⟨_, rfl⟩
              have hji : (c : Int) - 1 - q = (j : Int) := by omega
              have hjl : j < c := by omega
              obtain ⟨m1, m2, m3⟩ := HM.out q hqt
              rw [← hj] at m1 m2 m3
              have ca1 := HC1.out q hqt
              have ca : w2.cell? ⟨g1, q, none⟩ = some (.int .i64 (geti (ofN (offsAll ([] : List Int) ([] : List Int))) q)) := by
                rw [HB2.out.cell (p := ⟨g1, q, none⟩) (World.block_lt_of_cell? _ _ ca1)]; exact ca1
              have cb := HC2.out j hjl
              clear hj ca1
              generalize geti (ofN (offsAll ([] : List Int) ([] : List Int))) q = av at *
              generalize geti (ofN (offsAll ([] : List Int).reverse ([] : List Int).reverse)) j = bv at *
              have hne : (av != (0 : Int) - (0 : Int) - bv) = false := by rw [m1]; simp
              have m3' : bv ≤ 4096 := by first | omega | (simp at m3; omega)
              have hs4 : IntKind.i64.wrap ((0 : Int) - (0 : Int) - bv) = (0 : Int) - (0 : Int) - bv := IntWalk.i64_in _ (by omega)
              clear m1 m3
              go_wp2
              go_quiet (fail)
              go_wp2
              go_roundw
              case rel => exact ⟨q + 1, _, by omega, by go_num, rfl⟩
              case measure => simp [intOf]; omega
            · go_wp2
              go_ret
              exact ⟨rfl, below_drewN ((HB0.out.trans (HB1.out.mono HB0.out.size)).trans (HB2.out.mono (Nat.le_trans HB0.out.size HB1.out.size))) nq⟩

set_option maxRecDepth 100000 in
set_option maxHeartbeats 3200000 in
theorem lawIdx_ns (xa : Addr) (v_cap x_cap : Nat) (v x : List Int) (w : World) (hv : v.length ≤ 4096) (hx : x.length ≤ 4096) (hvs : IntsArg w none v_cap v) (hxs : IntsArg w (some xa) x_cap x) :
    Calls Tryz.prog 6 #[.slice none v.length v_cap, .slice (some xa) x.length x_cap] w (RetB (.bool true) w) := by
  obtain ⟨rfl, rfl⟩ := hvs.nil rfl
  have nqv := fun wx => run_neq_slice_nil (P := Tryz.prog) wx 34 3 none 0 0 Tryz.underlying34
  have hxs1 : IntsArg w (some xa) x_cap x := hxs
  have mkx := makeInts_any w x.length x rfl (by omega)
  have cpx := fun ty => run_copy_ints (some xa) x_cap x w x.length rfl xa rfl hxs1 34 34 ty Tryz.underlying34
  have nqx := fun wx => run_neq_slice_nil (P := Tryz.prog) wx 34 3 (some xa) x.length x_cap Tryz.underlying34
  have hB0 : Below w.heap.size w (w.alloc (.cells (copied x x.length) 3)) := ((Below.refl _ _).alloc (Nat.le_refl _) _)
  have hVS : IntsArg (w.alloc (.cells (copied x x.length) 3)) none 0 ([] : List Int) := ⟨fun _ => ⟨rfl, rfl⟩, fun k hk => by simp at hk⟩
  have hXS : IntsArg (w.alloc (.cells (copied x x.length) 3)) (some ⟨w.heap.size, 0, none⟩) x.length x := ints_copied w x
  clear hvs hxs hxs1
  have nsz : (w.alloc (.cells (copied x x.length) 3)).heap.size = w.heap.size + 1 := by simp
  have nsz2 : ((w.alloc (.cells (copied x x.length) 3)).alloc (.cells (revd ([] : List Int) 0) 3)).heap.size = w.heap.size + 1 + 1 := by simp
  have mkrv : (Instr.makeSlice 34 (.int .i64 0) (.int .i64 0)).run Tryz.prog (w.alloc (.cells (copied x x.length) 3)) = .ok (.slice (some ⟨(w.alloc (.cells (copied x x.length) 3)).heap.size, 0, none⟩) 0 0) ((w.alloc (.cells (copied x x.length) 3)).alloc (.cells (copied ([] : List Int) 0) 3)) := makeInts_any (w.alloc (.cells (copied x x.length) 3)) 0 ([] : List Int) rfl (by omega)
  rw [revd_zero, nsz] at mkrv
  have mkrx : (Instr.makeSlice 34 (.int .i64 x.length) (.int .i64 x.length)).run Tryz.prog ((w.alloc (.cells (copied x x.length) 3)).alloc (.cells (revd ([] : List Int) 0) 3)) = .ok (.slice (some ⟨((w.alloc (.cells (copied x x.length) 3)).alloc (.cells (revd ([] : List Int) 0) 3)).heap.size, 0, none⟩) x.length x.length) (((w.alloc (.cells (copied x x.length) 3)).alloc (.cells (revd ([] : List Int) 0) 3)).alloc (.cells (copied x 0) 3)) := makeInts_any ((w.alloc (.cells (copied x x.length) 3)).alloc (.cells (revd ([] : List Int) 0) 3)) x.length x rfl (by omega)
  rw [revd_zero, nsz2] at mkrx
  have c3 : Below (w.alloc (.cells (copied x x.length) 3)).heap.size (w.alloc (.cells (copied x x.length) 3)) ((w.alloc (.cells (copied x x.length) 3)).alloc (.cells (revd ([] : List Int) 0) 3)) := (Below.refl _ _).alloc (Nat.le_refl _) _
  have c4 : Below ((w.alloc (.cells (copied x x.length) 3)).alloc (.cells (revd ([] : List Int) 0) 3)).heap.size ((w.alloc (.cells (copied x x.length) 3)).alloc (.cells (revd ([] : List Int) 0) 3)) (((w.alloc (.cells (copied x x.length) 3)).alloc (.cells (revd ([] : List Int) 0) 3)).alloc (.cells (revd x x.length) 3)) := (Below.refl _ _).alloc (Nat.le_refl _) _
  have hRV : IntsArg ((w.alloc (.cells (copied x x.length) 3)).alloc (.cells (revd ([] : List Int) 0) 3)) (some ⟨w.heap.size + 1, 0, none⟩) 0 ([] : List Int).reverse := nsz ▸ ints_revd (w.alloc (.cells (copied x x.length) 3)) ([] : List Int)
  have hRX : IntsArg (((w.alloc (.cells (copied x x.length) 3)).alloc (.cells (revd ([] : List Int) 0) 3)).alloc (.cells (revd x x.length) 3)) (some ⟨w.heap.size + 1 + 1, 0, none⟩) x.length x.reverse := nsz2 ▸ ints_revd ((w.alloc (.cells (copied x x.length) 3)).alloc (.cells (revd ([] : List Int) 0) 3)) x
  have HVS := Lib.hid ((hVS.below c3).below c4)
  have HXS := Lib.hid ((hXS.below c3).below c4)
  have HRV := Lib.hid (hRV.below c4)
  have HRX := Lib.hid hRX
  have HB0 := Lib.hid (show Below w.heap.size w (((w.alloc (.cells (copied x x.length) 3)).alloc (.cells (revd ([] : List Int) 0) 3)).alloc (.cells (revd x x.length) 3)) from (hB0.trans (c3.mono hB0.size)).trans (c4.mono (by first | (simp; done) | (simp; omega))))
  clear hB0 hVS hXS nsz nsz2 c3 c4 hRV hRX
  go_enter Tryz.func6, Tryz.ntmps6
  go_wp2_with (go_at_call 22; refine (zzBytes_yes _ _ _ _ _ _ (by first | omega | (simp; omega)) _).mono ?_; rintro e w' ⟨rfl, rfl⟩)
  go_loopw [8] (fun i wr => ∃ k : Nat, k ≤ 0 ∧ i = .int .i64 k ∧ wr = (w.alloc (.cells (copied x x.length) 3)).alloc (.cells (revd ([] : List Int) k) 3)) (fun i _ => 0 - (intOf i).toNat)
  case atStart => exact ⟨0, Nat.zero_le _, rfl, rfl⟩
  case round =>
    obtain ⟨k, hk, rfl, rfl⟩ := hrel
    by_cases hlt : k < 0
    · exact absurd hlt (by simp)
    · obtain rfl : k = 0 := by omega
      go_wp2
      go_loopw [10] (fun i wr => ∃ k : Nat, k ≤ x.length ∧ i = .int .i64 k ∧ wr = ((w.alloc (.cells (copied x x.length) 3)).alloc (.cells (revd ([] : List Int) 0) 3)).alloc (.cells (revd x k) 3)) (fun i _ => x.length - (intOf i).toNat)
      case atStart => exact ⟨0, Nat.zero_le _, rfl, rfl⟩
      case round =>
        obtain ⟨k, hk, rfl, rfl⟩ := hrel
        by_cases hlt : k < x.length
        · have hsrc := copied_all x k hlt
          obtain ⟨j, hj⟩ : ∃ j, j = x.length - 1 - k := ⟨_, rfl⟩
          have hji : (x.length : Int) - 1 - k = (j : Int) := by omega
          have hjl : j < x.length := by omega
          have hset := revd_set x k hlt
          have hget := revd_get x k j (by omega)
          rw [← hj] at hset
          clear hj
          go_wp2
          go_roundw
          case rel => exact ⟨k + 1, by omega, by go_num, rfl⟩
          case measure => simp [intOf]; omega
        · obtain rfl : k = x.length := by omega
          go_wp2_with fail
          refine (zz_indices_n 0 x.length none (some ⟨w.heap.size, 0, none⟩) 0 x.length ([] : List Int) x _ rfl rfl (by omega) (by omega) HVS.out HXS.out).mono ?_
          rintro e w1 ⟨g1, rfl, hg1, hc1, hb1⟩
          have HG1 := Lib.hid hg1
          have HC1 := Lib.hid hc1
          have HB1 := Lib.hid hb1
          have HRV1 := Lib.hid (HRV.out.below hb1)
          have HRX1 := Lib.hid (HRX.out.below hb1)
          clear hg1 hc1 hb1
          go_wp2_with fail
          refine (zz_indices_n 0 x.length (some ⟨w.heap.size + 1, 0, none⟩) (some ⟨w.heap.size + 1 + 1, 0, none⟩) 0 x.length ([] : List Int).reverse x.reverse _ (by simp) (by simp) (by omega) (by omega) HRV1.out HRX1.out).mono ?_
          rintro e w2 ⟨g2, rfl, hg2, hc2, hb2⟩
          rw [mirror_length ([] : List Int) x] at hc2 ⊢
          have hM := mirror_at ([] : List Int) x
          have HLE := Lib.hid (offsAll_le ([] : List Int) x)
          generalize hcn : (offsAll ([] : List Int) x).length = c at *
          have HCN := Lib.hid hcn
          have HM := Lib.hid hM
          have HC2 := Lib.hid hc2
          have HB2 := Lib.hid hb2
          have hcle : c ≤ 4097 := by have := HLE.out; omega
          clear hcn hM hg2 hc2 hb2
          go_wp2
          go_loopw [15] (fun i wr => ∃ (q nq : Nat), q ≤ c ∧ i = .int .i64 q ∧ wr = w2.drewN nq) (fun i _ => c - (intOf i).toNat)
          case atStart => exact ⟨0, 0, Nat.zero_le _, rfl, rfl⟩
          case round =>
            obtain ⟨q, nq, hq, rfl, rfl⟩ := hrel
            by_cases hqt : q < c
            · obtain ⟨j, hj⟩ : ∃ j, j = c - 1 - q := ⟨_, rfl⟩
              have hji : (c : Int) - 1 - q = (j : Int) := by omega
              have hjl : j < c := by omega
              obtain ⟨m1, m2, m3⟩ := HM.out q hqt
              rw [← hj] at m1 m2 m3
              have ca1 := HC1.out q hqt
              have ca : w2.cell? ⟨g1, q, none⟩ = some (.int .i64 (geti (ofN (offsAll ([] : List Int) x)) q)) := by
                rw [HB2.out.cell (p := ⟨g1, q, none⟩) (World.block_lt_of_cell? _ _ ca1)]; exact ca1
              have cb := HC2.out j hjl
              clear hj ca1
              generalize geti (ofN (offsAll ([] : List Int) x)) q = av at *
              generalize geti (ofN (offsAll ([] : List Int).reverse x.reverse)) j = bv at *
              have hne : (av != (0 : Int) - (x.length : Int) - bv) = false := by rw [m1]; simp
              have m3' : bv ≤ 4096 := by first | omega | (simp at m3; omega)
              have hs4 : IntKind.i64.wrap ((0 : Int) - (x.length : Int) - bv) = (0 : Int) - (x.length : Int) - bv := IntWalk.i64_in _ (by omega)
              clear m1 m3
              go_wp2
              go_quiet (fail)
              go_wp2
              go_roundw
              case rel => exact ⟨q + 1, _, by omega, by go_num, rfl⟩
              case measure => simp [intOf]; omega
            · go_wp2
              go_ret
              exact ⟨rfl, below_drewN ((HB0.out.trans (HB1.out.mono HB0.out.size)).trans (HB2.out.mono (Nat.le_trans HB0.out.size HB1.out.size))) nq⟩

set_option maxRecDepth 100000 in
set_option maxHeartbeats 3200000 in
theorem lawIdx_sn (va : Addr) (v_cap x_cap : Nat) (v x : List Int) (w : World) (hv : v.length ≤ 4096) (hx : x.length ≤ 4096) (hvs : IntsArg w (some va) v_cap v) (hxs : IntsArg w none x_cap x) :
    Calls Tryz.prog 6 #[.slice (some va) v.length v_cap, .slice none x.length x_cap] w (RetB (.bool true) w) := by
  have mkv := makeInts_any w v.length v rfl (by omega)
  have cpv := fun ty => run_copy_ints (some va) v_cap v w v.length rfl va rfl hvs 34 34 ty Tryz.underlying34
  have nqv := fun wx => run_neq_slice_nil (P := Tryz.prog) wx 34 3 (some va) v.length v_cap Tryz.underlying34
  obtain ⟨rfl, rfl⟩ := hxs.nil rfl
  have nqx := fun wx => run_neq_slice_nil (P := Tryz.prog) wx 34 3 none 0 0 Tryz.underlying34
  have hB0 : Below w.heap.size w (w.alloc (.cells (copied v v.length) 3)) := ((Below.refl _ _).alloc (Nat.le_refl _) _)
  have hVS : IntsArg (w.alloc (.cells (copied v v.length) 3)) (some ⟨w.heap.size, 0, none⟩) v.length v := ints_copied w v
  have hXS : IntsArg (w.alloc (.cells (copied v v.length) 3)) none 0 ([] : List Int) := ⟨fun _ => ⟨rfl, rfl⟩, fun k hk => by simp at hk⟩
  clear hvs hxs
  have nsz : (w.alloc (.cells (copied v v.length) 3)).heap.size = w.heap.size + 1 := by simp
  have nsz2 : ((w.alloc (.cells (copied v v.length) 3)).alloc (.cells (revd v v.length) 3)).heap.size = w.heap.size + 1 + 1 := by simp
  have mkrv : (Instr.makeSlice 34 (.int .i64 v.length) (.int .i64 v.length)).run Tryz.prog (w.alloc (.cells (copied v v.length) 3)) = .ok (.slice (some ⟨(w.alloc (.cells (copied v v.length) 3)).heap.size, 0, none⟩) v.length v.length) ((w.alloc (.cells (copied v v.length) 3)).alloc (.cells (copied v 0) 3)) := makeInts_any (w.alloc (.cells (copied v v.length) 3)) v.length v rfl (by omega)
  rw [revd_zero, nsz] at mkrv
  have mkrx : (Instr.makeSlice 34 (.int .i64 0) (.int .i64 0)).run Tryz.prog ((w.alloc (.cells (copied v v.length) 3)).alloc (.cells (revd v v.length) 3)) = .ok (.slice (some ⟨((w.alloc (.cells (copied v v.length) 3)).alloc (.cells (revd v v.length) 3)).heap.size, 0, none⟩) 0 0) (((w.alloc (.cells (copied v v.length) 3)).alloc (.cells (revd v v.length) 3)).alloc (.cells (copied ([] : List Int) 0) 3)) := makeInts_any ((w.alloc (.cells (copied v v.length) 3)).alloc (.cells (revd v v.length) 3)) 0 ([] : List Int) rfl (by omega)
  rw [revd_zero, nsz2] at mkrx
  have c3 : Below (w.alloc (.cells (copied v v.length) 3)).heap.size (w.alloc (.cells (copied v v.length) 3)) ((w.alloc (.cells (copied v v.length) 3)).alloc (.cells (revd v v.length) 3)) := (Below.refl _ _).alloc (Nat.le_refl _) _
  have c4 : Below ((w.alloc (.cells (copied v v.length) 3)).alloc (.cells (revd v v.length) 3)).heap.size ((w.alloc (.cells (copied v v.length) 3)).alloc (.cells (revd v v.length) 3)) (((w.alloc (.cells (copied v v.length) 3)).alloc (.cells (revd v v.length) 3)).alloc (.cells (revd ([] : List Int) 0) 3)) := (Below.refl _ _).alloc (Nat.le_refl _) _
  have hRV : IntsArg ((w.alloc (.cells (copied v v.length) 3)).alloc (.cells (revd v v.length) 3)) (some ⟨w.heap.size + 1, 0, none⟩) v.length v.reverse := nsz ▸ ints_revd (w.alloc (.cells (copied v v.length) 3)) v
  have hRX : IntsArg (((w.alloc (.cells (copied v v.length) 3)).alloc (.cells (revd v v.length) 3)).alloc (.cells (revd ([] : List Int) 0) 3)) (some ⟨w.heap.size + 1 + 1, 0, none⟩) 0 ([] : List Int).reverse := nsz2 ▸ ints_revd ((w.alloc (.cells (copied v v.length) 3)).alloc (.cells (revd v v.length) 3)) ([] : List Int)
  have HVS := Lib.hid ((hVS.below c3).below c4)
  have HXS := Lib.hid ((hXS.below c3).below c4)
  have HRV := Lib.hid (hRV.below c4)
  have HRX := Lib.hid hRX
  have HB0 := Lib.hid (show Below w.heap.size w (((w.alloc (.cells (copied v v.length) 3)).alloc (.cells (revd v v.length) 3)).alloc (.cells (revd ([] : List Int) 0) 3)) from (hB0.trans (c3.mono hB0.size)).trans (c4.mono (by first | (simp; done) | (simp; omega))))
  clear hB0 hVS hXS nsz nsz2 c3 c4 hRV hRX
  go_enter Tryz.func6, Tryz.ntmps6
  go_wp2_with (go_at_call 22; refine (zzBytes_yes _ _ _ _ _ _ (by first | omega | (simp; omega)) _).mono ?_; rintro e w' ⟨rfl, rfl⟩)
  go_loopw [8] (fun i wr => ∃ k : Nat, k ≤ v.length ∧ i = .int .i64 k ∧ wr = (w.alloc (.cells (copied v v.length) 3)).alloc (.cells (revd v k) 3)) (fun i _ => v.length - (intOf i).toNat)
  case atStart => exact ⟨0, Nat.zero_le _, rfl, rfl⟩
  case round =>
    obtain ⟨k, hk, rfl, rfl⟩ := hrel
    by_cases hlt : k < v.length
    · have hsrc := copied_all v k hlt
      obtain ⟨j, hj⟩ : ∃ j, j = v.length - 1 - k := ⟨_, rfl⟩
      have hji : (v.length : Int) - 1 - k = (j : Int) := by omega
      have hjl : j < v.length := by omega
      have hset := revd_set v k hlt
      have hget := revd_get v k j (by omega)
      rw [← hj] at hset
      clear hj
      go_wp2
      go_roundw
      case rel => exact ⟨k + 1, by omega, by go_num, rfl⟩
      case measure => simp [intOf]; omega
    · obtain rfl : k = v.length := by omega
      go_wp2
      go_loopw [10] (fun i wr => ∃ k : Nat, k ≤ 0 ∧ i = .int .i64 k ∧ wr = ((w.alloc (.cells (copied v v.length) 3)).alloc (.cells (revd v v.length) 3)).alloc (.cells (revd ([] : List Int) k) 3)) (fun i _ => 0 - (intOf i).toNat)
      case atStart => exact ⟨0, Nat.zero_le _, rfl, rfl⟩
      case round =>
        obtain ⟨k, hk, rfl, rfl⟩ := hrel
        by_cases hlt : k < 0
        · exact absurd hlt (by simp)
        · obtain rfl : k = 0 := by omega
          go_wp2_with fail
          refine (zz_indices_n v.length 0 (some ⟨w.heap.size, 0, none⟩) none v.length 0 v ([] : List Int) _ rfl rfl (by omega) (by omega) HVS.out HXS.out).mono ?_
          rintro e w1 ⟨g1, rfl, hg1, hc1, hb1⟩
          have HG1 := Lib.hid hg1
          have HC1 := Lib.hid hc1
          have HB1 := Lib.hid hb1
          have HRV1 := Lib.hid (HRV.out.below hb1)
          have HRX1 := Lib.hid (HRX.out.below hb1)
          clear hg1 hc1 hb1
          go_wp2_with fail
          refine (zz_indices_n v.length 0 (some ⟨w.heap.size + 1, 0, none⟩) (some ⟨w.heap.size + 1 + 1, 0, none⟩) v.length 0 v.reverse ([] : List Int).reverse _ (by simp) (by simp) (by omega) (by omega) HRV1.out HRX1.out).mono ?_
          rintro e w2 ⟨g2, rfl, hg2, hc2, hb2⟩
          rw [mirror_length v ([] : List Int)] at hc2 ⊢
          have hM := mirror_at v ([] : List Int)
          have HLE := Lib.hid (offsAll_le v ([] : List Int))
          generalize hcn : (offsAll v ([] : List Int)).length = c at *
          have HCN := Lib.hid hcn
          have HM := Lib.hid hM
          have HC2 := Lib.hid hc2
          have HB2 := Lib.hid hb2
          have hcle : c ≤ 4097 := by have := HLE.out; omega
          clear hcn hM hg2 hc2 hb2
          go_wp2
          go_loopw [15] (fun i wr => ∃ (q nq : Nat), q ≤ c ∧ i = .int .i64 q ∧ wr = w2.drewN nq) (fun i _ => c - (intOf i).toNat)
          case atStart => exact ⟨0, 0, Nat.zero_le _, rfl, rfl⟩
          case round =>
            obtain ⟨q, nq, hq, rfl, rfl⟩ := hrel
            by_cases hqt : q < c
            · obtain ⟨j, hj⟩ : ∃ j, j = c - 1 - q := ⟨_, rfl⟩
              have hji : (c : Int) - 1 - q = (j : Int) := by omega
              have hjl : j < c := by omega
              obtain ⟨m1, m2, m3⟩ := HM.out q hqt
              rw [← hj] at m1 m2 m3
              have ca1 := HC1.out q hqt
              have ca : w2.cell? ⟨g1, q, none⟩ = some (.int .i64 (geti (ofN (offsAll v ([] : List Int))) q)) := by
                rw [HB2.out.cell (p := ⟨g1, q, none⟩) (World.block_lt_of_cell? _ _ ca1)]; exact ca1
              have cb := HC2.out j hjl
              clear hj ca1
              generalize geti (ofN (offsAll v ([] : List Int))) q = av at *
              generalize geti (ofN (offsAll v.reverse ([] : List Int).reverse)) j = bv at *
              have hne : (av != (v.length : Int) - (0 : Int) - bv) = false := by rw [m1]; simp
              have m3' : bv ≤ 4096 := by first | omega | (simp at m3; omega)
              have hs4 : IntKind.i64.wrap ((v.length : Int) - (0 : Int) - bv) = (v.length : Int) - (0 : Int) - bv := IntWalk.i64_in _ (by omega)
              clear m1 m3
              go_wp2
              go_quiet (fail)
              go_wp2
              go_roundw
              case rel => exact ⟨q + 1, _, by omega, by go_num, rfl⟩
              case measure => simp [intOf]; omega
            · go_wp2
              go_ret
              exact ⟨rfl, below_drewN ((HB0.out.trans (HB1.out.mono HB0.out.size)).trans (HB2.out.mono (Nat.le_trans HB0.out.size HB1.out.size))) nq⟩

set_option maxRecDepth 100000 in
set_option maxHeartbeats 3200000 in
theorem lawIdx_ss (va : Addr) (xa : Addr) (v_cap x_cap : Nat) (v x : List Int) (w : World) (hv : v.length ≤ 4096) (hx : x.length ≤ 4096) (hvs : IntsArg w (some va) v_cap v) (hxs : IntsArg w (some xa) x_cap x) :
    Calls Tryz.prog 6 #[.slice (some va) v.length v_cap, .slice (some xa) x.length x_cap] w (RetB (.bool true) w) := by
  have mkv := makeInts_any w v.length v rfl (by omega)
  have cpv := fun ty => run_copy_ints (some va) v_cap v w v.length rfl va rfl hvs 34 34 ty Tryz.underlying34
  have nqv := fun wx => run_neq_slice_nil (P := Tryz.prog) wx 34 3 (some va) v.length v_cap Tryz.underlying34
  have hxs1 : IntsArg (w.alloc (.cells (copied v v.length) 3)) (some xa) x_cap x := hxs.below ((Below.refl _ _).alloc (Nat.le_refl _) _)
  have mkx := makeInts_any (w.alloc (.cells (copied v v.length) 3)) x.length x rfl (by omega)
  have cpx := fun ty => run_copy_ints (some xa) x_cap x (w.alloc (.cells (copied v v.length) 3)) x.length rfl xa rfl hxs1 34 34 ty Tryz.underlying34
  have nqx := fun wx => run_neq_slice_nil (P := Tryz.prog) wx 34 3 (some xa) x.length x_cap Tryz.underlying34
  have hsz1 : (w.alloc (.cells (copied v v.length) 3)).heap.size = w.heap.size + 1 := by simp
  rw [hsz1] at mkx cpx
  clear hsz1
  have hB0 : Below w.heap.size w ((w.alloc (.cells (copied v v.length) 3)).alloc (.cells (copied x x.length) 3)) := (((Below.refl _ _).alloc (Nat.le_refl _) _).alloc (by simp) _)
  have hVS : IntsArg ((w.alloc (.cells (copied v v.length) 3)).alloc (.cells (copied x x.length) 3)) (some ⟨w.heap.size, 0, none⟩) v.length v := (ints_copied w v).below ((Below.refl _ _).alloc (Nat.le_refl _) _)
  have hXS : IntsArg ((w.alloc (.cells (copied v v.length) 3)).alloc (.cells (copied x x.length) 3)) (some ⟨w.heap.size + 1, 0, none⟩) x.length x := by have := ints_copied (w.alloc (.cells (copied v v.length) 3)) x; rwa [show (w.alloc (.cells (copied v v.length) 3)).heap.size = w.heap.size + 1 from by simp] at this
  clear hvs hxs hxs1
  have nsz : ((w.alloc (.cells (copied v v.length) 3)).alloc (.cells (copied x x.length) 3)).heap.size = w.heap.size + 1 + 1 := by simp
  have nsz2 : (((w.alloc (.cells (copied v v.length) 3)).alloc (.cells (copied x x.length) 3)).alloc (.cells (revd v v.length) 3)).heap.size = w.heap.size + 1 + 1 + 1 := by simp
  have mkrv : (Instr.makeSlice 34 (.int .i64 v.length) (.int .i64 v.length)).run Tryz.prog ((w.alloc (.cells (copied v v.length) 3)).alloc (.cells (copied x x.length) 3)) = .ok (.slice (some ⟨((w.alloc (.cells (copied v v.length) 3)).alloc (.cells (copied x x.length) 3)).heap.size, 0, none⟩) v.length v.length) (((w.alloc (.cells (copied v v.length) 3)).alloc (.cells (copied x x.length) 3)).alloc (.cells (copied v 0) 3)) := makeInts_any ((w.alloc (.cells (copied v v.length) 3)).alloc (.cells (copied x x.length) 3)) v.length v rfl (by omega)
  rw [revd_zero, nsz] at mkrv
  have mkrx : (Instr.makeSlice 34 (.int .i64 x.length) (.int .i64 x.length)).run Tryz.prog (((w.alloc (.cells (copied v v.length) 3)).alloc (.cells (copied x x.length) 3)).alloc (.cells (revd v v.length) 3)) = .ok (.slice (some ⟨(((w.alloc (.cells (copied v v.length) 3)).alloc (.cells (copied x x.length) 3)).alloc (.cells (revd v v.length) 3)).heap.size, 0, none⟩) x.length x.length) ((((w.alloc (.cells (copied v v.length) 3)).alloc (.cells (copied x x.length) 3)).alloc (.cells (revd v v.length) 3)).alloc (.cells (copied x 0) 3)) := makeInts_any (((w.alloc (.cells (copied v v.length) 3)).alloc (.cells (copied x x.length) 3)).alloc (.cells (revd v v.length) 3)) x.length x rfl (by omega)
  rw [revd_zero, nsz2] at mkrx
  have c3 : Below ((w.alloc (.cells (copied v v.length) 3)).alloc (.cells (copied x x.length) 3)).heap.size ((w.alloc (.cells (copied v v.length) 3)).alloc (.cells (copied x x.length) 3)) (((w.alloc (.cells (copied v v.length) 3)).alloc (.cells (copied x x.length) 3)).alloc (.cells (revd v v.length) 3)) := (Below.refl _ _).alloc (Nat.le_refl _) _
  have c4 : Below (((w.alloc (.cells (copied v v.length) 3)).alloc (.cells (copied x x.length) 3)).alloc (.cells (revd v v.length) 3)).heap.size (((w.alloc (.cells (copied v v.length) 3)).alloc (.cells (copied x x.length) 3)).alloc (.cells (revd v v.length) 3)) ((((w.alloc (.cells (copied v v.length) 3)).alloc (.cells (copied x x.length) 3)).alloc (.cells (revd v v.length) 3)).alloc (.cells (revd x x.length) 3)) := (Below.refl _ _).alloc (Nat.le_refl _) _
  have hRV : IntsArg (((w.alloc (.cells (copied v v.length) 3)).alloc (.cells (copied x x.length) 3)).alloc (.cells (revd v v.length) 3)) (some ⟨w.heap.size + 1 + 1, 0, none⟩) v.length v.reverse := nsz ▸ ints_revd ((w.alloc (.cells (copied v v.length) 3)).alloc (.cells (copied x x.length) 3)) v
  have hRX : IntsArg ((((w.alloc (.cells (copied v v.length) 3)).alloc (.cells (copied x x.length) 3)).alloc (.cells (revd v v.length) 3)).alloc (.cells (revd x x.length) 3)) (some ⟨w.heap.size + 1 + 1 + 1, 0, none⟩) x.length x.reverse := nsz2 ▸ ints_revd (((w.alloc (.cells (copied v v.length) 3)).alloc (.cells (copied x x.length) 3)).alloc (.cells (revd v v.length) 3)) x
  have HVS := Lib.hid ((hVS.below c3).below c4)
  have HXS := Lib.hid ((hXS.below c3).below c4)
  have HRV := Lib.hid (hRV.below c4)
  have HRX := Lib.hid hRX
  have HB0 := Lib.hid (show Below w.heap.size w ((((w.alloc (.cells (copied v v.length) 3)).alloc (.cells (copied x x.length) 3)).alloc (.cells (revd v v.length) 3)).alloc (.cells (revd x x.length) 3)) from (hB0.trans (c3.mono hB0.size)).trans (c4.mono (by first | (simp; done) | (simp; omega))))
  clear hB0 hVS hXS nsz nsz2 c3 c4 hRV hRX
  go_enter Tryz.func6, Tryz.ntmps6
  go_wp2_with (go_at_call 22; refine (zzBytes_yes _ _ _ _ _ _ (by first | omega | (simp; omega)) _).mono ?_; rintro e w' ⟨rfl, rfl⟩)
  go_loopw [8] (fun i wr => ∃ k : Nat, k ≤ v.length ∧ i = .int .i64 k ∧ wr = ((w.alloc (.cells (copied v v.length) 3)).alloc (.cells (copied x x.length) 3)).alloc (.cells (revd v k) 3)) (fun i _ => v.length - (intOf i).toNat)
  case atStart => exact ⟨0, Nat.zero_le _, rfl, rfl⟩
  case round =>
    obtain ⟨k, hk, rfl, rfl⟩ := hrel
    by_cases hlt : k < v.length
    · have hsrc := copied_all v k hlt
      obtain ⟨j, hj⟩ : ∃ j, j = v.length - 1 - k := ⟨_, rfl⟩
      have hji : (v.length : Int) - 1 - k = (j : Int) := by omega
      have hjl : j < v.length := by omega
      have hset := revd_set v k hlt
      have hget := revd_get v k j (by omega)
      rw [← hj] at hset
      clear hj
      go_wp2
      go_roundw
      case rel => exact ⟨k + 1, by omega, by go_num, rfl⟩
      case measure => simp [intOf]; omega
    · obtain rfl : k = v.length := by omega
      go_wp2
      go_loopw [10] (fun i wr => ∃ k : Nat, k ≤ x.length ∧ i = .int .i64 k ∧ wr = (((w.alloc (.cells (copied v v.length) 3)).alloc (.cells (copied x x.length) 3)).alloc (.cells (revd v v.length) 3)).alloc (.cells (revd x k) 3)) (fun i _ => x.length - (intOf i).toNat)
      case atStart => exact ⟨0, Nat.zero_le _, rfl, rfl⟩
      case round =>
        obtain ⟨k, hk, rfl, rfl⟩ := hrel
        by_cases hlt : k < x.length
        · have hsrc := copied_all x k hlt
          obtain ⟨j, hj⟩ : ∃ j, j = x.length - 1 - k := ⟨_, rfl⟩
          have hji : (x.length : Int) - 1 - k = (j : Int) := by omega
          have hjl : j < x.length := by omega
          have hset := revd_set x k hlt
          have hget := revd_get x k j (by omega)
          rw [← hj] at hset
          clear hj
          go_wp2
          go_roundw
          case rel => exact ⟨k + 1, by omega, by go_num, rfl⟩
          case measure => simp [intOf]; omega
        · obtain rfl : k = x.length := by omega
          go_wp2_with fail
          refine (zz_indices_n v.length x.length (some ⟨w.heap.size, 0, none⟩) (some ⟨w.heap.size + 1, 0, none⟩) v.length x.length v x _ rfl rfl (by omega) (by omega) HVS.out HXS.out).mono ?_
          rintro e w1 ⟨g1, rfl, hg1, hc1, hb1⟩
          have HG1 := Lib.hid hg1
          have HC1 := Lib.hid hc1
          have HB1 := Lib.hid hb1
          have HRV1 := Lib.hid (HRV.out.below hb1)
          have HRX1 := Lib.hid (HRX.out.below hb1)
          clear hg1 hc1 hb1
          go_wp2_with fail
          refine (zz_indices_n v.length x.length (some ⟨w.heap.size + 1 + 1, 0, none⟩) (some ⟨w.heap.size + 1 + 1 + 1, 0, none⟩) v.length x.length v.reverse x.reverse _ (by simp) (by simp) (by omega) (by omega) HRV1.out HRX1.out).mono ?_
          rintro e w2 ⟨g2, rfl, hg2, hc2, hb2⟩
          rw [mirror_length v x] at hc2 ⊢
          have hM := mirror_at v x
          have HLE := Lib.hid (offsAll_le v x)
          generalize hcn : (offsAll v x).length = c at *
          have HCN := Lib.hid hcn
          have HM := Lib.hid hM
          have HC2 := Lib.hid hc2
          have HB2 := Lib.hid hb2
          have hcle : c ≤ 4097 := by have := HLE.out; omega
          clear hcn hM hg2 hc2 hb2
          go_wp2
          go_loopw [15] (fun i wr => ∃ (q nq : Nat), q ≤ c ∧ i = .int .i64 q ∧ wr = w2.drewN nq) (fun i _ => c - (intOf i).toNat)
          case atStart => exact ⟨0, 0, Nat.zero_le _, rfl, rfl⟩
          case round =>
            obtain ⟨q, nq, hq, rfl, rfl⟩ := hrel
            by_cases hqt : q < c
            · obtain ⟨j, hj⟩ : ∃ j, j = c - 1 - q := ⟨_, rfl⟩
              have hji : (c : Int) - 1 - q = (j : Int) := by omega
              have hjl : j < c := by omega
              obtain ⟨m1, m2, m3⟩ := HM.out q hqt
              rw [← hj] at m1 m2 m3
              have ca1 := HC1.out q hqt
              have ca : w2.cell? ⟨g1, q, none⟩ = some (.int .i64 (geti (ofN (offsAll v x)) q)) := by
                rw [HB2.out.cell (p := ⟨g1, q, none⟩) (World.block_lt_of_cell? _ _ ca1)]; exact ca1
              have cb := HC2.out j hjl
              clear hj ca1
              generalize geti (ofN (offsAll v x)) q = av at *
              generalize geti (ofN (offsAll v.reverse x.reverse)) j = bv at *
              have hne : (av != (v.length : Int) - (x.length : Int) - bv) = false := by rw [m1]; simp
              have m3' : bv ≤ 4096 := by first | omega | (simp at m3; omega)
              have hs4 : IntKind.i64.wrap ((v.length : Int) - (x.length : Int) - bv) = (v.length : Int) - (x.length : Int) - bv := IntWalk.i64_in _ (by omega)
              clear m1 m3
              go_wp2
              go_quiet (fail)
              go_wp2
              go_roundw
              case rel => exact ⟨q + 1, _, by omega, by go_num, rfl⟩
              case measure => simp [intOf]; omega
            · go_wp2
              go_ret
              exact ⟨rfl, below_drewN ((HB0.out.trans (HB1.out.mono HB0.out.size)).trans (HB2.out.mono (Nat.le_trans HB0.out.size HB1.out.size))) nq⟩

set_option maxRecDepth 100000 in
theorem lawIndices (v_ao x_ao : Option Addr) (v_cap x_cap : Nat) (v x : List Int) (w : World) (hvb : v.length ≤ 9223372036854775807) (hxb : x.length ≤ 9223372036854775807) (hvs : IntsArg w v_ao v_cap v) (hxs : IntsArg w x_ao x_cap x) :
    Calls Tryz.prog 6 #[.slice v_ao v.length v_cap, .slice x_ao x.length x_cap] w (RetB (.bool true) w) := by
  by_cases h3 : v.length + x.length ≤ 1048576
  · by_cases h4 : v.length ≤ 4096 ∧ x.length ≤ 4096
    · obtain ⟨h4, h5⟩ := h4
      cases v_ao <;> cases x_ao
      · exact lawIdx_nn v_cap x_cap v x w h4 h5 hvs hxs
      · exact lawIdx_ns _ v_cap x_cap v x w h4 h5 hvs hxs
      · exact lawIdx_sn _ v_cap x_cap v x w h4 h5 hvs hxs
      · exact lawIdx_ss _ _ v_cap x_cap v x w h4 h5 hvs hxs
    · clear hvs hxs
      go_enter Tryz.func6, Tryz.ntmps6
      go_wp2_with (go_at_call 22; refine (zzBytes_ii _ _ _ _ _ _ hvb hxb _).mono ?_; rintro e w' ⟨rfl, rfl⟩)
      all_goals (go_ret; exact ⟨rfl, Below.refl _ _⟩)
  · have h3' : 1048576 < v.length + x.length := by omega
    clear hvs hxs
    go_enter Tryz.func6, Tryz.ntmps6
    go_wp2_with (go_at_call 22; refine (zzBytes_ii _ _ _ _ _ _ hvb hxb _).mono ?_; rintro e w' ⟨rfl, rfl⟩)
    go_ret
    exact ⟨rfl, Below.refl _ _⟩
end Go.Proofs.YtlhkbdeceogjgaaGreatDoor
