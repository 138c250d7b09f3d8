/- The law's helpers and the export, walked: well-formed tags, copies, comparisons, funcFlatten and the whole of ZZflatten. Conditions: at most 1048576 tokens. -/
import Derived.Test.YtlhndkonhjjcgaaGreatDoorRow
import Derived.Test.YtlhndkonhjjcgaaGreatDoorDec
import Derived.Test.YtlhndkonhjjcgaaGreatDoorFlat
import Derived.Test.YtlhndkonhjjcgaaGreatDoorEncT
namespace Go.Proofs.YtlhndkonhjjcgaaGreatDoor
open Go.RowKit Go
@[go_sem] theorem as_f64_f64 (v : Value) (w : World) : (Instr.typeAssert (.iface 30 v) 20 30 true).run Tryz.prog w = .ok (.tuple #[v, .bool true]) w := by kernel_rfl
@[go_sem] theorem as_f64_int (v : Value) (w : World) : (Instr.typeAssert (.iface 30 v) 20 3 true).run Tryz.prog w = .ok (.tuple #[.int .i64 0, .bool false]) w := by kernel_rfl
@[go_sem] theorem as_f64_arr (v : Value) (w : World) : (Instr.typeAssert (.iface 30 v) 20 35 true).run Tryz.prog w = .ok (.tuple #[.slice none 0 0, .bool false]) w := by kernel_rfl
/-- An argument that is a slice of integers of kind k, as it came in. -/
structure ArgIn (k : IntKind) (w : World) (ao : Option Addr) (cap : Nat) (zs : List Int) : Prop where
  nil : ao = none → zs = [] ∧ cap = 0
  at' : ∀ j (h : j < zs.length), ∃ b off, ao = some ⟨b, off, none⟩ ∧ w.cell? ⟨b, off + j, none⟩ = some (.int k (zs[j]'h))
theorem ArgIn.below {k : IntKind} {w w' : World} {ao : Option Addr} {cap : Nat} {zs : List Int} (h : ArgIn k w ao cap zs) (hb : Below w.heap.size w w') : ArgIn k w' ao cap zs :=
  ⟨h.nil, fun j hj => let ⟨b, off, e, hc⟩ := h.at' j hj; ⟨b, off, e, by rw [hb.cell (p := ⟨b, off + j, none⟩) (World.block_lt_of_cell? _ _ hc)]; exact hc⟩⟩
/-- Tags alone. -/
def wfT : List Int → Nat → Bool
  | [], l => l == 0
  | t :: ts, l => if t = 1 then wfT ts (l + 1) else if t = 2 then (if l = 0 then false else wfT ts (l - 1)) else wfT ts l
theorem drop_at (zs : List Int) (k : Nat) (h : k < zs.length) : zs.drop k = zs[k] :: zs.drop (k + 1) := List.drop_eq_getElem_cons h
theorem wfT_one {zs : List Int} {k l : Nat} (h : k < zs.length) (e : zs[k] = 1) : wfT (zs.drop k) l = wfT (zs.drop (k + 1)) (l + 1) := by rw [drop_at zs k h, wfT, if_pos e]
theorem wfT_two0 {zs : List Int} {k : Nat} (h : k < zs.length) (e : zs[k] = 2) : wfT (zs.drop k) 0 = false := by rw [drop_at zs k h, wfT, if_neg (by omega), if_pos e, if_pos rfl]
theorem wfT_two {zs : List Int} {k l : Nat} (h : k < zs.length) (e : zs[k] = 2) (hl : 0 < l) : wfT (zs.drop k) l = wfT (zs.drop (k + 1)) (l - 1) := by rw [drop_at zs k h, wfT, if_neg (by omega), if_pos e, if_neg (by omega)]
theorem wfT_leaf {zs : List Int} {k l : Nat} (h : k < zs.length) (e1 : zs[k] ≠ 1) (e2 : zs[k] ≠ 2) : wfT (zs.drop k) l = wfT (zs.drop (k + 1)) l := by rw [drop_at zs k h, wfT, if_neg e1, if_neg e2]
def RetN (v : Value) (w : World) (e : Ending) (w' : World) : Prop := e = .returned v ∧ ∃ n, w' = w.drewN n
set_option maxRecDepth 100000 in
set_option maxHeartbeats 3200000 in
theorem wf_any (ao : Option Addr) (cap : Nat) (zs : List Int) (w : World) (hlen : zs.length ≤ 1048576) (hs : ArgIn .u8 w ao cap zs) : Calls Tryz.prog 6 #[.slice ao zs.length cap] w (RetN (.bool (wfT zs 0)) w) := by
  have HA := Lib.hid hs.at'
  clear hs
  obtain ⟨m, hm⟩ : ∃ m, zs.length = m := ⟨_, rfl⟩
  have HM := Lib.hid hm
  rw [hm] at hlen ⊢
  clear hm
  go_enter Tryz.func6, Tryz.ntmps6
  go_wp2
  go_loopw [3, 4] (fun lv ix wr => ∃ (k l nq : Nat), k ≤ m ∧ l ≤ k ∧ ix = .int .i64 (k : Int) ∧ lv = .int .i64 (l : Int) ∧ Hid (wfT (zs.drop k) l = wfT zs 0) ∧ wr = w.drewN nq) (fun _ ix _ => m - (intOf ix).toNat)
  case atStart => exact ⟨0, 0, 0, Nat.zero_le _, Nat.le_refl _, rfl, rfl, Lib.hid rfl, rfl⟩
  case round =>
    obtain ⟨k, l, nq, hk, hlk, rfl, rfl, HW, rfl⟩ := hrel
    by_cases hlt : k < m
    · have hkz : k < zs.length := by rw [HM.out]; exact hlt
      obtain ⟨b, off, hao, hc⟩ := HA.out k hkz
      by_cases e1 : zs[k] = 1
      · have HN := Lib.hid (show wfT (zs.drop (k + 1)) (l + 1) = wfT zs 0 from by rw [← wfT_one hkz e1]; exact HW.out)
        rw [e1] at hc
        clear e1 hkz
        subst hao
        go_wp2
        all_goals try go_quiet (fail)
        all_goals go_wp2
        all_goals go_roundw
        case rel => exact ⟨k + 1, l + 1, _, by omega, by omega, by go_num, by go_num, HN, rfl⟩
        case measure => simp [intOf]; omega
      · by_cases e2 : zs[k] = 2
        · by_cases hl : 0 < l
          · have HN := Lib.hid (show wfT (zs.drop (k + 1)) (l - 1) = wfT zs 0 from by rw [← wfT_two hkz e2 hl]; exact HW.out)
            rw [e2] at hc
            clear e1 e2 hkz
            subst hao
            obtain ⟨l, rfl⟩ : ∃ l', l = l' + 1 := ⟨l - 1, by omega⟩
            go_wp2
            all_goals try go_quiet (fail)
            all_goals go_wp2
            all_goals go_roundw
            case rel => exact ⟨k + 1, l, _, by omega, by omega, by go_num, by go_num, HN, rfl⟩
            case measure => simp [intOf]; omega
          · obtain rfl : l = 0 := by omega
            have HN := Lib.hid (show wfT zs 0 = false from by rw [← wfT_two0 hkz e2]; exact HW.out.symm)
            rw [e2] at hc
            clear e1 e2 hkz
            subst hao
            go_wp2
            all_goals try go_quiet (fail)
            all_goals go_wp2
            all_goals go_ret
            exact ⟨ret_bool HN.out.symm, _, rfl⟩
        · have HN := Lib.hid (show wfT (zs.drop (k + 1)) l = wfT zs 0 from by rw [← wfT_leaf hkz e1 e2]; exact HW.out)
          have t1 : ((zs[k]'hkz) == 1) = false := by rw [beq_eq_false_iff_ne]; exact e1
          have t2 : ((zs[k]'hkz) == 2) = false := by rw [beq_eq_false_iff_ne]; exact e2
          clear e1 e2
          generalize (zs[k]'hkz) = z at hc t1 t2
          clear hkz
          subst hao
          go_wp2
          all_goals try go_quiet (fail)
          all_goals go_wp2
          all_goals go_roundw
          case rel => exact ⟨k + 1, l, _, by omega, by omega, by go_num, by go_num, HN, rfl⟩
          case measure => simp [intOf]; omega
    · obtain rfl : k = m := by omega
      have HN := Lib.hid (show wfT zs 0 = (l == 0) from by rw [← HW.out, List.drop_of_length_le (by rw [HM.out]; exact Nat.le_refl _)]; rfl)
      go_wp2
      go_ret
      exact ⟨ret_bool (by rw [HN.out, Bool.eq_iff_iff]; simp), _, rfl⟩
/-- The first j copied, the rest zero. -/
def copB (zs : List Int) (j : Nat) : Array Value := ((zs.take j).map (Value.int .u8) ++ List.replicate (zs.length - j) (Value.int .u8 0)).toArray
theorem copB_zero (zs : List Int) : madeCells #[Value.int .u8 0] (zs.length * 1) = copB zs 0 := by
  simp [copB, madeCells]
  apply Array.ext <;> simp [Nat.mod_one]
theorem copB_get (zs : List Int) (j : Nat) (h : j < zs.length) : (copB zs j)[j]? = some (.int .u8 0) := by
  simp only [copB, List.getElem?_toArray]
  rw [List.getElem?_append_right (by simp; omega)]
  simp [List.getElem?_replicate]; omega
theorem copB_set (zs : List Int) (j : Nat) (h : j < zs.length) : (copB zs j).setIfInBounds j (.int .u8 (zs[j]'h)) = copB zs (j + 1) := by
  apply Array.ext'
  simp only [copB, List.setIfInBounds_toArray]
  have e : zs.length - j = (zs.length - (j + 1)) + 1 := by omega
  rw [List.set_append_right _ _ (by simp; omega), e, List.replicate_succ, List.take_succ_eq_append_getElem h, List.map_append]
  simp [Nat.min_eq_left (Nat.le_of_lt h), - List.map_take]
theorem copB_all (zs : List Int) (j : Nat) (h : j < zs.length) : (copB zs zs.length)[j]? = some (.int .u8 (zs[j]'h)) := by
  simp [copB, List.getElem?_eq_getElem h]
theorem makeB (w : World) (n : Nat) (zs : List Int) (hz : zs.length = n) (h : n ≤ 1048576) :
    (Instr.makeSlice 22 (.int .i64 n) (.int .i64 n)).run Tryz.prog w = .ok (.slice (some ⟨w.heap.size, 0, none⟩) n n) (w.alloc (.cells (copB zs 0) 5)) := by
  obtain ⟨i0, hi, hz0, hz1, hz2⟩ := info_parts info_u8
  rw [run_make w 22 5 i0 (.int .u8 0) Tryz.underlying22 hi hz0 .i64 .i64 n n (by omega) (by omega) (by rw [hz2]; omega) (by omega)]
  rw [hz1, ← hz, Int.toNat_natCast, ← copB_zero]
  rfl
set_option maxRecDepth 100000 in
set_option maxHeartbeats 1600000 in
theorem cloneB (ao : Option Addr) (cap : Nat) (zs : List Int) (w : World) (hlen : zs.length ≤ 1048576) (hs : ArgIn .u8 w ao cap zs) :
    Calls Tryz.prog 7 #[.slice ao zs.length cap] w fun e w' => ∃ ao' cap', e = .returned (.slice ao' zs.length cap') ∧ ArrIn (· < w'.heap.size) w' ao' (zs.map (Value.int .u8)) ∧ Below w.heap.size w w' := by
  cases hao : ao with
  | none =>
    obtain ⟨hz, hc⟩ := hs.nil hao
    subst hao hz hc
    have Fin := Lib.hid (show ∃ ao' cap', Ending.returned (.slice none 0 0) = .returned (.slice ao' ([] : List Int).length cap') ∧ ArrIn (· < w.heap.size) w ao' (([] : List Int).map (Value.int .u8)) ∧ Below w.heap.size w w from ⟨none, 0, rfl, fun j hj => by simp at hj, Below.refl _ _⟩)
    clear hs
    have hnil := fun wx n' c' => Lib.run_eql_slice_nil (P := Tryz.prog) wx 22 5 none 0 0 n' c' Tryz.underlying22
    go_enter Tryz.func7, Tryz.ntmps7
    go_wp2
    go_ret
    exact Fin.out
  | some a0 =>
    subst hao
    have hmk := makeB w zs.length zs rfl hlen
    have Hs := Lib.hid hs.at'
    have Fin := Lib.hid (show ∃ ao' cap', Ending.returned (.slice (some ⟨w.heap.size, 0, none⟩) zs.length zs.length) = .returned (.slice ao' zs.length cap') ∧ ArrIn (· < (w.alloc (.cells (copB zs zs.length) 5)).heap.size) (w.alloc (.cells (copB zs zs.length) 5)) ao' (zs.map (Value.int .u8)) ∧ Below w.heap.size w (w.alloc (.cells (copB zs zs.length) 5)) from
      ⟨_, _, rfl, fun j hj => ⟨_, rfl, by simp, by
        have hj' : j < zs.length := by simpa using hj
        rw [World.cell?_alloc_new, copB_all zs j hj']
        simp⟩, (Below.refl _ _).alloc (Nat.le_refl _) _⟩)
    clear hs
    obtain ⟨n, hn⟩ : ∃ n, zs.length = n := ⟨_, rfl⟩
    have Hz := Lib.hid hn
    rw [hn] at hmk Fin hlen ⊢
    clear hn
    have hnil := fun wx n' c' => Lib.run_eql_slice_nil (P := Tryz.prog) wx 22 5 (some a0) n cap n' c' Tryz.underlying22
    go_enter Tryz.func7, Tryz.ntmps7
    go_wp2
    go_loopw [4] (fun i wr => ∃ j : Nat, j ≤ n ∧ i = .int .i64 j ∧ wr = w.alloc (.cells (copB zs j) 5)) (fun i _ => n - (intOf i).toNat)
    case atStart => exact ⟨0, Nat.zero_le _, rfl, rfl⟩
    case round =>
      obtain ⟨j, hk, rfl, rfl⟩ := hrel
      by_cases hlt : j < n
      · have hjz : j < zs.length := by rw [Hz.out]; exact hlt
        obtain ⟨b, off, hao, hc⟩ := Hs.out j hjz
        cases hao
        have hb : b < w.heap.size := World.block_lt_of_cell? _ _ hc
        have hset := copB_set zs j hjz
        have hget := copB_get zs j hjz
        generalize (zs[j]'hjz) = z at hc hset
        clear hmk hjz
        go_wp2
        go_roundw
        case rel => exact ⟨j + 1, by omega, by go_num, rfl⟩
        case measure => simp [intOf]; omega
      · obtain rfl : j = n := by omega
        go_wp2
        go_ret
        exact Fin.out
/-- The first j copied, the rest zero. -/
def copI (zs : List Int) (j : Nat) : Array Value := ((zs.take j).map (Value.int .i64) ++ List.replicate (zs.length - j) (Value.int .i64 0)).toArray
theorem copI_zero (zs : List Int) : madeCells #[Value.int .i64 0] (zs.length * 1) = copI zs 0 := by
  simp [copI, madeCells]
  apply Array.ext <;> simp [Nat.mod_one]
theorem copI_get (zs : List Int) (j : Nat) (h : j < zs.length) : (copI zs j)[j]? = some (.int .i64 0) := by
  simp only [copI, List.getElem?_toArray]
  rw [List.getElem?_append_right (by simp; omega)]
  simp [List.getElem?_replicate]; omega
theorem copI_set (zs : List Int) (j : Nat) (h : j < zs.length) : (copI zs j).setIfInBounds j (.int .i64 (zs[j]'h)) = copI zs (j + 1) := by
  apply Array.ext'
  simp only [copI, List.setIfInBounds_toArray]
  have e : zs.length - j = (zs.length - (j + 1)) + 1 := by omega
  rw [List.set_append_right _ _ (by simp; omega), e, List.replicate_succ, List.take_succ_eq_append_getElem h, List.map_append]
  simp [Nat.min_eq_left (Nat.le_of_lt h), - List.map_take]
theorem copI_all (zs : List Int) (j : Nat) (h : j < zs.length) : (copI zs zs.length)[j]? = some (.int .i64 (zs[j]'h)) := by
  simp [copI, List.getElem?_eq_getElem h]
theorem makeI (w : World) (n : Nat) (zs : List Int) (hz : zs.length = n) (h : n ≤ 1048576) :
    (Instr.makeSlice 23 (.int .i64 n) (.int .i64 n)).run Tryz.prog w = .ok (.slice (some ⟨w.heap.size, 0, none⟩) n n) (w.alloc (.cells (copI zs 0) 3)) := by
  obtain ⟨i0, hi, hz0, hz1, hz2⟩ := info_parts info_int
  rw [run_make w 23 3 i0 (.int .i64 0) Tryz.underlying23 hi hz0 .i64 .i64 n n (by omega) (by omega) (by rw [hz2]; omega) (by omega)]
  rw [hz1, ← hz, Int.toNat_natCast, ← copI_zero]
  rfl
set_option maxRecDepth 100000 in
set_option maxHeartbeats 1600000 in
theorem cloneI (ao : Option Addr) (cap : Nat) (zs : List Int) (w : World) (hlen : zs.length ≤ 1048576) (hs : ArgIn .i64 w ao cap zs) :
    Calls Tryz.prog 8 #[.slice ao zs.length cap] w fun e w' => ∃ ao' cap', e = .returned (.slice ao' zs.length cap') ∧ ArrIn (· < w'.heap.size) w' ao' (zs.map (Value.int .i64)) ∧ Below w.heap.size w w' := by
  cases hao : ao with
  | none =>
    obtain ⟨hz, hc⟩ := hs.nil hao
    subst hao hz hc
    have Fin := Lib.hid (show ∃ ao' cap', Ending.returned (.slice none 0 0) = .returned (.slice ao' ([] : List Int).length cap') ∧ ArrIn (· < w.heap.size) w ao' (([] : List Int).map (Value.int .i64)) ∧ Below w.heap.size w w from ⟨none, 0, rfl, fun j hj => by simp at hj, Below.refl _ _⟩)
    clear hs
    have hnil := fun wx n' c' => Lib.run_eql_slice_nil (P := Tryz.prog) wx 23 3 none 0 0 n' c' Tryz.underlying23
    go_enter Tryz.func8, Tryz.ntmps8
    go_wp2
    go_ret
    exact Fin.out
  | some a0 =>
    subst hao
    have hmk := makeI w zs.length zs rfl hlen
    have Hs := Lib.hid hs.at'
    have Fin := Lib.hid (show ∃ ao' cap', Ending.returned (.slice (some ⟨w.heap.size, 0, none⟩) zs.length zs.length) = .returned (.slice ao' zs.length cap') ∧ ArrIn (· < (w.alloc (.cells (copI zs zs.length) 3)).heap.size) (w.alloc (.cells (copI zs zs.length) 3)) ao' (zs.map (Value.int .i64)) ∧ Below w.heap.size w (w.alloc (.cells (copI zs zs.length) 3)) from
      ⟨_, _, rfl, fun j hj => ⟨_, rfl, by simp, by
        have hj' : j < zs.length := by simpa using hj
        rw [World.cell?_alloc_new, copI_all zs j hj']
        simp⟩, (Below.refl _ _).alloc (Nat.le_refl _) _⟩)
    clear hs
    obtain ⟨n, hn⟩ : ∃ n, zs.length = n := ⟨_, rfl⟩
    have Hz := Lib.hid hn
    rw [hn] at hmk Fin hlen ⊢
    clear hn
    have hnil := fun wx n' c' => Lib.run_eql_slice_nil (P := Tryz.prog) wx 23 3 (some a0) n cap n' c' Tryz.underlying23
    go_enter Tryz.func8, Tryz.ntmps8
    go_wp2
    go_loopw [4] (fun i wr => ∃ j : Nat, j ≤ n ∧ i = .int .i64 j ∧ wr = w.alloc (.cells (copI zs j) 3)) (fun i _ => n - (intOf i).toNat)
    case atStart => exact ⟨0, Nat.zero_le _, rfl, rfl⟩
    case round =>
      obtain ⟨j, hk, rfl, rfl⟩ := hrel
      by_cases hlt : j < n
      · have hjz : j < zs.length := by rw [Hz.out]; exact hlt
        obtain ⟨b, off, hao, hc⟩ := Hs.out j hjz
        cases hao
        have hb : b < w.heap.size := World.block_lt_of_cell? _ _ hc
        have hset := copI_set zs j hjz
        have hget := copI_get zs j hjz
        generalize (zs[j]'hjz) = z at hc hset
        clear hmk hjz
        go_wp2
        go_roundw
        case rel => exact ⟨j + 1, by omega, by go_num, rfl⟩
        case measure => simp [intOf]; omega
      · obtain rfl : j = n := by omega
        go_wp2
        go_ret
        exact Fin.out
set_option maxRecDepth 100000 in
set_option maxHeartbeats 1600000 in
theorem eqB (S1 S2 : Nat → Prop) (zs : List Int) (ao bo : Option Addr) (c d : Nat) (w : World) (hl : zs.length ≤ 1048576) (h1 : ArrIn S1 w ao (zs.map (Value.int .u8))) (h2 : ArrIn S2 w bo (zs.map (Value.int .u8))) :
    Calls Tryz.prog 10 #[.slice ao zs.length c, .slice bo zs.length d] w (RetN (.bool true) w) := by
  have HC := Lib.hid (show ∀ j (hj : j < zs.length), ∃ g, ao = some ⟨g, 0, none⟩ ∧ w.cell? ⟨g, j, none⟩ = some (.int .u8 (zs[j]'hj)) from fun j hj => by
    obtain ⟨g, e, _, hc⟩ := h1 j (by simpa using hj)
    exact ⟨g, e, by rw [hc]; simp⟩)
  have HD := Lib.hid (show ∀ j (hj : j < zs.length), ∃ g, bo = some ⟨g, 0, none⟩ ∧ w.cell? ⟨g, j, none⟩ = some (.int .u8 (zs[j]'hj)) from fun j hj => by
    obtain ⟨g, e, _, hc⟩ := h2 j (by simpa using hj)
    exact ⟨g, e, by rw [hc]; simp⟩)
  clear h1 h2
  obtain ⟨m, hm⟩ : ∃ m, zs.length = m := ⟨_, rfl⟩
  have HM := Lib.hid hm
  rw [hm] at hl ⊢
  clear hm
  go_enter Tryz.func10, Tryz.ntmps10
  go_wp2
  go_loopw [5] (fun i wr => ∃ (k nq : Nat), k ≤ m ∧ i = .int .i64 k ∧ wr = w.drewN nq) (fun i _ => m - (intOf i).toNat)
  case atStart => exact ⟨0, 0, Nat.zero_le _, rfl, rfl⟩
  case round =>
    obtain ⟨k, nq, hk, rfl, rfl⟩ := hrel
    by_cases hlt : k < m
    · have hkz : k < zs.length := by rw [HM.out]; exact hlt
      obtain ⟨g, rfl, hc⟩ := HC.out k hkz
      obtain ⟨g2, rfl, hd⟩ := HD.out k hkz
      generalize (zs[k]'hkz) = x at hc hd
      clear hkz
      go_wp2
      go_quiet (fail)
      go_wp2
      go_roundw
      case rel => exact ⟨k + 1, _, by omega, by go_num, rfl⟩
      case measure => simp [intOf]; omega
    · go_wp2
      go_ret
      exact ⟨rfl, _, rfl⟩
set_option maxRecDepth 100000 in
set_option maxHeartbeats 1600000 in
theorem eqI (S1 S2 : Nat → Prop) (zs : List Int) (ao bo : Option Addr) (c d : Nat) (w : World) (hl : zs.length ≤ 1048576) (h1 : ArrIn S1 w ao (zs.map (Value.int .i64))) (h2 : ArrIn S2 w bo (zs.map (Value.int .i64))) :
    Calls Tryz.prog 11 #[.slice ao zs.length c, .slice bo zs.length d] w (RetN (.bool true) w) := by
  have HC := Lib.hid (show ∀ j (hj : j < zs.length), ∃ g, ao = some ⟨g, 0, none⟩ ∧ w.cell? ⟨g, j, none⟩ = some (.int .i64 (zs[j]'hj)) from fun j hj => by
    obtain ⟨g, e, _, hc⟩ := h1 j (by simpa using hj)
    exact ⟨g, e, by rw [hc]; simp⟩)
  have HD := Lib.hid (show ∀ j (hj : j < zs.length), ∃ g, bo = some ⟨g, 0, none⟩ ∧ w.cell? ⟨g, j, none⟩ = some (.int .i64 (zs[j]'hj)) from fun j hj => by
    obtain ⟨g, e, _, hc⟩ := h2 j (by simpa using hj)
    exact ⟨g, e, by rw [hc]; simp⟩)
  clear h1 h2
  obtain ⟨m, hm⟩ : ∃ m, zs.length = m := ⟨_, rfl⟩
  have HM := Lib.hid hm
  rw [hm] at hl ⊢
  clear hm
  go_enter Tryz.func11, Tryz.ntmps11
  go_wp2
  go_loopw [5] (fun i wr => ∃ (k nq : Nat), k ≤ m ∧ i = .int .i64 k ∧ wr = w.drewN nq) (fun i _ => m - (intOf i).toNat)
  case atStart => exact ⟨0, 0, Nat.zero_le _, rfl, rfl⟩
  case round =>
    obtain ⟨k, nq, hk, rfl, rfl⟩ := hrel
    by_cases hlt : k < m
    · have hkz : k < zs.length := by rw [HM.out]; exact hlt
      obtain ⟨g, rfl, hc⟩ := HC.out k hkz
      obtain ⟨g2, rfl, hd⟩ := HD.out k hkz
      generalize (zs[k]'hkz) = x at hc hd
      clear hkz
      go_wp2
      go_quiet (fail)
      go_wp2
      go_roundw
      case rel => exact ⟨k + 1, _, by omega, by go_num, rfl⟩
      case measure => simp [intOf]; omega
    · go_wp2
      go_ret
      exact ⟨rfl, _, rfl⟩
theorem toFloat_any (x : Nat) (w : World) : Calls Tryz.prog 18 #[.iface 30 (.float .f64 x)] w (Ret (.tuple #[.float .f64 x, .bool true]) w) := by
  go_enter Tryz.func18, Tryz.ntmps18
  go_wp2
  go_ret2
  exact ⟨rfl, rfl⟩
theorem values_any (v : Value) (w : World) : Calls Tryz.prog 17 #[.iface 35 v] w (Ret (.tuple #[v, .bool true]) w) := by
  go_enter Tryz.func17, Tryz.ntmps17
  go_wp2
  go_ret2
  exact ⟨rfl, rfl⟩
theorem lt_any (a b : Nat) (w : World) : Calls Tryz.prog 19 #[.float .f64 a, .float .f64 b] w (Ret (.bool (ltF a b)) w) := by
  go_enter Tryz.func19, Tryz.ntmps19
  go_wp2
  · rename_i h; go_ret; exact ⟨by simp [ltF, h], rfl⟩
  · go_ret; exact ⟨rfl, rfl⟩
/-- What funcFlatten answers where it takes the depth. -/
def FunPost (S : Nat → Prop) (B : Nat) (g : Fo) (w : World) (e : Ending) (w' : World) : Prop := ∃ ao us c, e = .returned (.iface 35 (.slice ao us.length c)) ∧ OwnG 20 B (.slice ao us.length c) us w' ∧ Rep S w' g us ∧ Below B w w'
set_option maxRecDepth 100000 in
set_option maxHeartbeats 1600000 in
theorem fun_depth (S : Nat → Prop) (f : Fo) (o : Option Nat) (d : Nat) (hd : Dok f.deep d o) (hlt : ltF d 0 = false) (ao : Option Addr) (us : List Value) (c b : Nat) (w : World) (hS : ∀ b, S b → b < w.heap.size)
    (hc : w.cell? ⟨b, 0, none⟩ = some (.iface 30 (.float .f64 d))) (ha : ArrIn S w ao us) (hr : Rep S w f us) (hsz : f.size ≤ 1048576) :
    Calls Tryz.prog 15 #[.iface 35 (.slice ao us.length c), .slice (some ⟨b, 0, none⟩) 1 1] w (FunPost S w.heap.size (f.flat o) w) := by
  have HC := Lib.hid (show Calls Tryz.prog 20 #[.slice (some ⟨w.heap.size, 0, none⟩) 0 0, .slice ao us.length c, .float .f64 d] (w.alloc (.cells #[] 20)) (FlatPost S w.heap.size (f.flat o) (w.alloc (.cells #[] 20))) from
    flat_fuel S (f.size + 1) f (Nat.lt_succ_self _) o f.deep d (Nat.le_refl _) hd w.heap.size hS .nil _ [] ao us c _ (World.ownsRow_lit w #[] 0 (Nat.le_refl _) (by decide) rfl) (by simp) rfl (ha.keep fun g hg => Below.heap_alloc _ _ _ (hS g hg)) (hr.keep fun g hg => Below.heap_alloc _ _ _ (hS g hg)) (by simp only [Fo.size]; omega))
  have HLt := Lib.hid (show ∀ W, Calls Tryz.prog 19 #[.float .f64 d, .float .f64 0] W (Ret (.bool false) W) from fun W => by have := lt_any d 0 W; rwa [hlt] at this)
  have HB := Lib.hid (show Below w.heap.size w (w.alloc (.cells #[] 20)) from (Below.refl _ _).alloc (Nat.le_refl _) _)
  clear hd hlt ha hr hS
  go_enter Tryz.func15, Tryz.ntmps15
  go_wp2_with (first
    | (go_at_call 17; refine (values_any _ _).mono ?_; rintro e w' ⟨rfl, rfl⟩)
    | (go_at_call 18; refine (toFloat_any _ _).mono ?_; rintro e w' ⟨rfl, rfl⟩)
    | (go_at_call 19; refine (HLt.out _).mono ?_; rintro e w' ⟨rfl, rfl⟩))
  try go_at_call 20
  refine HC.out.mono ?_
  rintro e w1 ⟨v1, us1, rfl, ho1, hr1, hb1⟩
  obtain ⟨ao1, c1, rfl⟩ := ownG_slice ho1
  have HX := Lib.hid (And.intro ho1 (And.intro hr1 (HB.out.trans hb1)))
  clear ho1 hr1 hb1
  go_wp2
  go_ret
  exact ⟨_, _, _, rfl, HX.out⟩
/-- The depth that is refused. -/
def RefPost (w : World) (e : Ending) (w' : World) : Prop := ∃ p, e = .returned (.iface 49 (.pointer p)) ∧ Below w.heap.size w w'
set_option maxRecDepth 100000 in
set_option maxHeartbeats 1600000 in
theorem fun_refused (d : Nat) (hlt : ltF d 0 = true) (v : Value) (b : Nat) (w : World) (hc : w.cell? ⟨b, 0, none⟩ = some (.iface 30 (.float .f64 d))) :
    Calls Tryz.prog 15 #[.iface 35 v, .slice (some ⟨b, 0, none⟩) 1 1] w (RefPost w) := by
  have HLt := Lib.hid (show ∀ W, Calls Tryz.prog 19 #[.float .f64 d, .float .f64 0] W (Ret (.bool true) W) from fun W => by have := lt_any d 0 W; rwa [hlt] at this)
  clear hlt
  go_enter Tryz.func15, Tryz.ntmps15
  go_wp2_with (first
    | (go_at_call 17; refine (values_any _ _).mono ?_; rintro e w' ⟨rfl, rfl⟩)
    | (go_at_call 18; refine (toFloat_any _ _).mono ?_; rintro e w' ⟨rfl, rfl⟩)
    | (go_at_call 19; refine (HLt.out _).mono ?_; rintro e w' ⟨rfl, rfl⟩))
  go_ret
  exact ⟨_, rfl, (Below.refl _ _).alloc (Nat.le_refl _) _⟩
set_option maxRecDepth 100000 in
set_option maxHeartbeats 1600000 in
theorem fun_all (S : Nat → Prop) (f : Fo) (hd : Dok f.deep 13830554455654793216 none) (ao : Option Addr) (us : List Value) (c : Nat) (w : World) (hS : ∀ b, S b → b < w.heap.size)
    (ha : ArrIn S w ao us) (hr : Rep S w f us) (hsz : f.size ≤ 1048576) :
    Calls Tryz.prog 15 #[.iface 35 (.slice ao us.length c), .slice none 0 0] w (FunPost S w.heap.size (f.flat none) w) := by
  have HC := Lib.hid (show Calls Tryz.prog 20 #[.slice (some ⟨w.heap.size, 0, none⟩) 0 0, .slice ao us.length c, .float .f64 13830554455654793216] (w.alloc (.cells #[] 20)) (FlatPost S w.heap.size (f.flat none) (w.alloc (.cells #[] 20))) from
    flat_fuel S (f.size + 1) f (Nat.lt_succ_self _) none f.deep _ (Nat.le_refl _) hd w.heap.size hS .nil _ [] ao us c _ (World.ownsRow_lit w #[] 0 (Nat.le_refl _) (by decide) rfl) (by simp) rfl (ha.keep fun g hg => Below.heap_alloc _ _ _ (hS g hg)) (hr.keep fun g hg => Below.heap_alloc _ _ _ (hS g hg)) (by simp only [Fo.size]; omega))
  have HB := Lib.hid (show Below w.heap.size w (w.alloc (.cells #[] 20)) from (Below.refl _ _).alloc (Nat.le_refl _) _)
  clear hd ha hr hS
  go_enter Tryz.func15, Tryz.ntmps15
  go_wp2_with (first
    | (go_at_call 17; refine (values_any _ _).mono ?_; rintro e w' ⟨rfl, rfl⟩))
  try go_at_call 20
  refine HC.out.mono ?_
  rintro e w1 ⟨v1, us1, rfl, ho1, hr1, hb1⟩
  obtain ⟨ao1, c1, rfl⟩ := ownG_slice ho1
  have HX := Lib.hid (And.intro ho1 (And.intro hr1 (HB.out.trans hb1)))
  clear ho1 hr1 hb1
  go_wp2
  go_ret
  exact ⟨_, _, _, rfl, HX.out⟩
/-- The export's whole answer. -/
def ZZPost (g : Fo) (w : World) (e : Ending) (w' : World) : Prop := ∃ ta c1 va c2, e = .returned (.tuple #[.slice ta g.enc.length c1, .slice va g.enc.length c2, .bool false]) ∧ Toks w' ta va g.enc ∧ Below w.heap.size w w'
theorem two_toks {B : Nat} {t v : Value} {g : Fo} {w0 w : World} (h : Two B t v (tagsV g) (valsV g) w0 w) : ∃ ta c1 va c2, t = .slice ta g.enc.length c1 ∧ v = .slice va g.enc.length c2 ∧ Toks w ta va g.enc := by
  obtain ⟨h1, h2, _, _⟩ := h
  obtain ⟨ta, c1, rfl⟩ := ownG_slice h1
  obtain ⟨va, c2, rfl⟩ := ownG_slice h2
  refine ⟨ta, c1, va, c2, by simp [tagsV], by simp [valsV], ownG_arr h1 (fun _ _ h => h), ownG_arr h2 (fun _ _ h => h)⟩
theorem encT_any (f : Fo) (S : Nat → Prop) (B : Nat) (hS : ∀ b, S b → b < B) (t v : Value) (ao : Option Addr) (us : List Value) (c : Nat) (w : World) (h : Two B t v [] [] w w) (ha : ArrIn S w ao us) (hr : Rep S w f us) (hsz : f.size ≤ 1048576) :
    Calls Tryz.prog 16 #[.slice ao us.length c, t, v] w (EncPost B (tagsV f) (valsV f) w) := by
  have := encT_fuel S (f.size + 1) f (Nat.lt_succ_self _) B hS t v [] [] ao us c w h ha hr (by simpa using hsz) (by simpa using hsz)
  simpa using this
set_option maxRecDepth 100000 in
set_option maxHeartbeats 3200000 in
theorem zz_depth (L : List (Nat × Int)) (hL : L.length ≤ 1048576) (f : Fo) (hf : L.map norm = f.enc) (o : Option Nat) (d : Nat) (hd : Dok f.deep d o) (hlt : ltF d 0 = false) (ta va : Option Addr) (c1 c2 : Nat) (w : World) (hw : Toks w ta va L) :
    Calls Tryz.prog 9 #[.slice ta L.length c1, .slice va L.length c2, .bool true, .float .f64 d] w (ZZPost (f.flat o) w) := by
  have hsz : f.size ≤ 1048576 := by rw [← Fo.enc_len, ← hf, List.length_map]; exact hL
  have HD := Lib.hid (dec_any L hL f hf ta va c1 c2 w hw)
  have HSz := Lib.hid hsz
  have HFz := Lib.hid (Fo.flat_size f o)
  have HDk := Lib.hid hd
  have HLt := Lib.hid hlt
  clear hd hlt
  clear hw hf hsz
  generalize L.length = m at *
  go_enter Tryz.func9, Tryz.ntmps9
  go_wp2_with fail
  try go_at_call 14
  refine HD.out.mono ?_
  rintro e w1 ⟨ao, us, c, rfl, ka, kr, kb⟩
  have HKA := Lib.hid ka
  have HKR := Lib.hid kr
  have HKB := Lib.hid kb
  clear ka kr kb HD
  have HF := Lib.hid (fun_depth (Rg w w1) f o d HDk.out HLt.out ao us c w1.heap.size (w1.alloc (.cells #[.iface 30 (.float .f64 d)] 20)) (fun b hb => by have := hb.2; simp; omega) (by rw [World.cell?_alloc_new]; rfl) (HKA.out.keep fun g hg => Below.heap_alloc _ _ _ hg.2) (HKR.out.keep fun g hg => Below.heap_alloc _ _ _ hg.2) HSz.out)
  go_wp2_with fail
  try go_at_call 15
  refine HF.out.mono ?_
  rintro e w3 ⟨ao3, us3, c3, rfl, ho3, hr3, hb3⟩
  have HO3 := Lib.hid (show ArrIn (· < w3.heap.size) w3 ao3 us3 ∧ Rep (· < w3.heap.size) w3 (f.flat o) us3 ∧ Below w.heap.size w w3 from ⟨ownG_arr ho3 (fun _ _ h => h), hr3.up (fun g hg => Nat.lt_of_lt_of_le hg.2 (Nat.le_trans (by simp) hb3.size)), HKB.out.trans (((Below.refl _ _).alloc HKB.out.size _).trans (hb3.mono (by have := HKB.out.size; simp; omega)))⟩)
  clear ho3 hr3 hb3 HF HKA HKR HKB
  have HE := Lib.hid (fun (W : World) (t v : Value) (hb : Below w3.heap.size w3 W) (h : Two w3.heap.size t v [] [] W W) => encT_any (f.flat o) (· < w3.heap.size) w3.heap.size (fun _ h => h) t v ao3 us3 c3 W h (HO3.out.1.keep fun g hg => hb.block g hg) (HO3.out.2.1.keep fun g hg => hb.block g hg) (by have := HFz.out; have := HSz.out; omega))
  go_wp2_with fail
  refine (HE.out _ _ _ ?hb ?ht).mono ?_
  case hb => exact ((Below.refl _ _).alloc (Nat.le_refl _) _).alloc (by simp) _
  case ht =>
    have h1 : OwnG 5 w3.heap.size (.slice (some ⟨w3.heap.size, 0, none⟩) 0 0) [] ((w3.alloc (.cells #[] 5)).alloc (.cells #[] 3)) := World.ownsRow.alloc (World.ownsRow_lit w3 #[] 0 (Nat.le_refl _) (by decide) rfl) _
    have h2 : OwnG 3 w3.heap.size (.slice (some ⟨w3.heap.size + 1, 0, none⟩) 0 0) [] ((w3.alloc (.cells #[] 5)).alloc (.cells #[] 3)) := by
      have h := World.ownsRow_lit (base := w3.heap.size) (size := 1) (e := 3) (w3.alloc (.cells #[] 5)) #[] 0 (by simp) (by decide) rfl
      simpa [OwnG] using h
    exact ⟨h1, h2, Below.refl _ _, by simp; omega⟩
  rintro e w5 ⟨t, v, rfl, h5⟩
  obtain ⟨t5, c5, v5, d5, rfl, rfl, hT⟩ := two_toks h5
  have HX := Lib.hid (And.intro hT (show Below w.heap.size w w5 from HO3.out.2.2.trans ((((Below.refl _ _).alloc (Nat.le_refl _) _).alloc (by simp) _).trans h5.2.2.1 |>.mono HO3.out.2.2.size)))
  clear hT h5 HE HO3
  go_wp2
  go_ret3
  exact ⟨_, _, _, _, rfl, HX.out⟩
end Go.Proofs.YtlhndkonhjjcgaaGreatDoor
