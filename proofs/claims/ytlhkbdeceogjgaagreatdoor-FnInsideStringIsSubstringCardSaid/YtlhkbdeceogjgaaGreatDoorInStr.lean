/- The law on inside of strings, walked. Conditions: none. -/
import Derived.Test.YtlhkbdeceogjgaaGreatDoorSub
namespace Go.Proofs.YtlhkbdeceogjgaaGreatDoor
open Go.RowKit Go
@[go_sem] theorem as_str_num (v : Value) (w : World) : (Instr.typeAssert (.iface 9 v) 20 77 true).run Tryz.prog w = .ok (.tuple #[.string ByteArray.empty, .bool false]) w := by kernel_rfl
@[go_sem] theorem as_str_int (v : Value) (w : World) : (Instr.typeAssert (.iface 9 v) 20 3 true).run Tryz.prog w = .ok (.tuple #[.int .i64 0, .bool false]) w := by kernel_rfl
@[go_sem] theorem as_str_f64 (v : Value) (w : World) : (Instr.typeAssert (.iface 9 v) 20 22 true).run Tryz.prog w = .ok (.tuple #[.float .f64 0, .bool false]) w := by kernel_rfl
@[go_sem] theorem as_str_big (v : Value) (w : World) : (Instr.typeAssert (.iface 9 v) 20 91 true).run Tryz.prog w = .ok (.tuple #[.pointer none, .bool false]) w := by kernel_rfl
@[go_sem] theorem as_str_str (v : Value) (w : World) : (Instr.typeAssert (.iface 9 v) 20 9 true).run Tryz.prog w = .ok (.tuple #[v, .bool true]) w := by kernel_rfl
@[go_sem] theorem as_str_arr (v : Value) (w : World) : (Instr.typeAssert (.iface 9 v) 20 68 true).run Tryz.prog w = .ok (.tuple #[.slice none 0 0, .bool false]) w := by kernel_rfl
@[go_sem] theorem as_str_map (v : Value) (w : World) : (Instr.typeAssert (.iface 9 v) 20 105 true).run Tryz.prog w = .ok (.tuple #[.map none, .bool false]) w := by kernel_rfl
@[go_sem] theorem as_str_bool (v : Value) (w : World) : (Instr.typeAssert (.iface 9 v) 20 4 true).run Tryz.prog w = .ok (.tuple #[.bool false, .bool false]) w := by kernel_rfl
@[go_sem] theorem as_bool_num (v : Value) (w : World) : (Instr.typeAssert (.iface 4 v) 20 77 true).run Tryz.prog w = .ok (.tuple #[.string ByteArray.empty, .bool false]) w := by kernel_rfl
@[go_sem] theorem as_bool_int (v : Value) (w : World) : (Instr.typeAssert (.iface 4 v) 20 3 true).run Tryz.prog w = .ok (.tuple #[.int .i64 0, .bool false]) w := by kernel_rfl
@[go_sem] theorem as_bool_f64 (v : Value) (w : World) : (Instr.typeAssert (.iface 4 v) 20 22 true).run Tryz.prog w = .ok (.tuple #[.float .f64 0, .bool false]) w := by kernel_rfl
@[go_sem] theorem as_bool_big (v : Value) (w : World) : (Instr.typeAssert (.iface 4 v) 20 91 true).run Tryz.prog w = .ok (.tuple #[.pointer none, .bool false]) w := by kernel_rfl
@[go_sem] theorem as_bool_str (v : Value) (w : World) : (Instr.typeAssert (.iface 4 v) 20 9 true).run Tryz.prog w = .ok (.tuple #[.string ByteArray.empty, .bool false]) w := by kernel_rfl
@[go_sem] theorem as_bool_arr (v : Value) (w : World) : (Instr.typeAssert (.iface 4 v) 20 68 true).run Tryz.prog w = .ok (.tuple #[.slice none 0 0, .bool false]) w := by kernel_rfl
@[go_sem] theorem as_bool_map (v : Value) (w : World) : (Instr.typeAssert (.iface 4 v) 20 105 true).run Tryz.prog w = .ok (.tuple #[.map none, .bool false]) w := by kernel_rfl
@[go_sem] theorem as_bool_bool (v : Value) (w : World) : (Instr.typeAssert (.iface 4 v) 20 4 true).run Tryz.prog w = .ok (.tuple #[v, .bool true]) w := by kernel_rfl
/-- What the naive search tells. -/
def Has (s t : ByteArray) (b : Bool) : Prop := (b = true ∧ ∃ k, k + t.size ≤ s.size ∧ occ s t k = true) ∨ (b = false ∧ ∀ k, k + t.size ≤ s.size → occ s t k = false)
theorem first_has (s t : ByteArray) (z : Int) (b : Bool) (h1 : First s t z) (h2 : Has s t b) : decide (0 ≤ z) = b := by
  rcases h1 with ⟨k, rfl, a1, a2, _⟩ | ⟨rfl, a1⟩
  · rcases h2 with ⟨rfl, _⟩ | ⟨rfl, b1⟩
    · exact decide_eq_true (by omega)
    · rw [b1 k a1] at a2; exact absurd a2 (by simp)
  · rcases h2 with ⟨rfl, k, b1, b2⟩ | ⟨rfl, _⟩
    · rw [a1 k b1] at b2; exact absurd b2 (by simp)
    · exact decide_eq_false (by omega)
set_option maxRecDepth 100000 in
set_option maxHeartbeats 1600000 in
theorem hasSub_any (s t : ByteArray) (hs : s.size ≤ 1048576) (ht : t.size ≤ 1048576) (w : World) :
    Calls Tryz.prog 21 #[.string s, .string t] w fun e w' => ∃ b : Bool, Has s t b ∧ RetD (.bool b) w e w' := by
  go_enter Tryz.func21, Tryz.ntmps21
  go_wp2
  go_loopw [5, 6] (fun i _ wr => ∃ k : Nat, k ≤ s.size + 1 ∧ i = .int .i64 k ∧ Hid (∀ j, j < k → occ s t j = false) ∧ Hid (∃ nq, wr = w.drewN nq)) (fun i _ _ => s.size + 1 - (intOf i).toNat)
  case atStart => exact ⟨0, Nat.zero_le _, rfl, Lib.hid (fun j hj => by omega), Lib.hid ⟨0, rfl⟩⟩
  case round =>
    obtain ⟨k, hk, rfl, Hn, Hw⟩ := hrel
    obtain ⟨e, he⟩ : ∃ e, e = k + t.size := ⟨_, rfl⟩
    have hsum : IntKind.i64.wrap ((k : Int) + t.size) = (e : Int) := by rw [IntWalk.i64_in _ (by omega)]; omega
    by_cases hle : e ≤ s.size
    · have hks : k + t.size ≤ s.size := by omega
      have HE := Lib.hid hks
      clear he hks
      go_wp2
      go_loopw [6] (fun j wr => ∃ m : Nat, m ≤ t.size ∧ j = .int .i64 m ∧ Hid (∀ j (h1 : k + j < s.size) (h2 : j < t.size), j < m → s[k + j] = t[j]) ∧ Hid (∃ nq, wr = w.drewN nq)) (fun j _ => t.size - (intOf j).toNat)
      case atStart => exact ⟨0, Nat.zero_le _, rfl, Lib.hid (fun j _ _ hj => by omega), Hw⟩
      case round =>
        clear Hw
        obtain ⟨m, hm, rfl, Hp, Hw⟩ := hrel
        by_cases hlt : m < t.size
        · obtain ⟨n, hn⟩ : ∃ n, n = k + m := ⟨_, rfl⟩
          have hkm : IntKind.i64.wrap ((k : Int) + m) = (n : Int) := by rw [IntWalk.i64_in _ (by have := HE.out; omega)]; omega
          have hns : n < s.size := by have := HE.out; omega
          by_cases hq : s[n] = t[m]
          · have hqb : ((s[n].toNat : Int) == t[m].toNat) = true := by rw [hq]; simp
            have HS := Lib.hid (show ∀ j (h1 : k + j < s.size) (h2 : j < t.size), j < m + 1 → s[k + j] = t[j] from fun j h1 h2 hj => by
              by_cases ej : j = m
              · subst ej; subst hn; exact hq
              · exact Hp.out j h1 h2 (by omega))
            clear hq hn
            go_wp2
            go_quiet (fail)
            go_wp2
            go_roundw
            case rel => exact ⟨m + 1, by omega, by go_num, HS, Lib.hid (drew_more Hw.out _)⟩
            case measure => simp [intOf]; omega
          · have hqb : ((s[n].toNat : Int) == t[m].toNat) = false := by
              rw [beq_eq_false_iff_ne]; intro x; exact hq (UInt8.toNat_inj.1 (by omega))
            have HO := Lib.hid (show occ s t k = false from by
              subst hn
              exact occ_no s t k m HE.out hns hlt hq)
            have hmb : ((m : Int) == t.size) = false := by rw [beq_eq_false_iff_ne]; omega
            clear hq hn
            go_wp2
            go_quiet (fail)
            go_wp2
            go_roundw
            case rel => exact ⟨k + 1, by have := HE.out; omega, by go_num, Lib.hid (fun j hj => by
              by_cases ej : j = k
              · rw [ej]; exact HO.out
              · exact Hn.out j (by omega)), Lib.hid (drew_more Hw.out _)⟩
            case measure => simp [intOf]; have := HE.out; omega
        · have hmt : m = t.size := by omega
          have HO := Lib.hid (show occ s t k = true from occ_yes s t k HE.out (fun j h1 h2 => Hp.out j h1 h2 (by omega)))
          have hmb : ((m : Int) == t.size) = true := by rw [hmt]; simp
          have hd : decide (m < t.size) = false := by simpa using hlt
          clear hmt
          go_wp2
          go_quiet (fail)
          go_wp2
          go_ret
          exact ⟨true, Or.inl ⟨rfl, k, HE.out, HO.out⟩, rfl, drew_more Hw.out _⟩
    · have HE := Lib.hid he
      clear he
      go_wp2
      go_ret
      exact ⟨false, Or.inr ⟨rfl, fun j hj => Hn.out j (by have := HE.out; omega)⟩, rfl, Hw.out⟩
set_option maxRecDepth 100000 in
theorem zz_insideStr (v x : ByteArray) (hv : v.size ≤ 1048576) (hx : x.size ≤ 1048576) (w : World) :
    Calls Tryz.prog 20 #[.string v, .string x] w fun e w' => ∃ z : Int, First x v z ∧ RetD (.tuple #[.bool (decide (0 ≤ z)), .bool true]) w e w' := by
  have hi := fun w => zzIndex_any x v hx hv w
  have HI := Lib.hid hi
  clear hi
  go_enter Tryz.func20, Tryz.ntmps20
  go_wp2_with (first | (go_at_call 52; go_in) | (go_at_call 53; go_in) | (go_at_call 69; go_in) | (go_at_call 70; go_in) | (go_at_call 103; go_in) | (go_at_call 104; go_in) | (go_at_call 125; refine (HI.out _).mono ?_; rintro e w' ⟨z, hz, rfl, nq, rfl⟩))
  go_ret2
  exact ⟨z, hz, rfl, nq, rfl⟩
set_option maxRecDepth 100000 in
theorem bytesIn (a b : ByteArray) (ha : a.size ≤ 9223372036854775807) (hb : b.size ≤ 9223372036854775807) (w : World) : Calls Tryz.prog 19 #[.string a, .string b] w (Ret (.bool (decide (a.size + b.size ≤ 1048576))) w) := by
  have hsum : a.size ≤ 1048576 → b.size ≤ 1048576 → IntKind.i64.wrap ((a.size : Int) + b.size) = a.size + b.size := fun h1 h2 => IntWalk.i64_in _ (by omega)
  by_cases h1 : a.size ≤ 1048576
  · by_cases h2 : b.size ≤ 1048576
    · by_cases h3 : a.size + b.size ≤ 1048576
      · go_enter Tryz.func19, Tryz.ntmps19
        go_wp2
        go_ret
        exact ⟨ret_bool (by simp [h3]), rfl⟩
      · have h3' : 1048576 < a.size + b.size := by omega
        go_enter Tryz.func19, Tryz.ntmps19
        go_wp2
        go_ret
        exact ⟨ret_bool (by simp [h3]), rfl⟩
    · have h2' : 1048576 < b.size := by omega
      go_enter Tryz.func19, Tryz.ntmps19
      go_wp2
      go_ret
      exact ⟨ret_bool (by simp; omega), rfl⟩
  · have h1' : 1048576 < a.size := by omega
    go_enter Tryz.func19, Tryz.ntmps19
    go_wp2
    go_ret
    exact ⟨ret_bool (by simp; omega), rfl⟩
set_option maxRecDepth 100000 in
set_option maxHeartbeats 800000 in
theorem lawInsideStr (v x : ByteArray) (hv : v.size ≤ 9223372036854775807) (hx : x.size ≤ 9223372036854775807) (w : World) : Calls Tryz.prog 5 #[.string v, .string x] w (RetD (.bool true) w) := by
  by_cases h3 : v.size + x.size ≤ 1048576
  · by_cases h4 : v.size ≤ 4096 ∧ x.size ≤ 4096
    · obtain ⟨h4, h5⟩ := h4
      go_enter Tryz.func5, Tryz.ntmps5
      go_wp2_with (go_at_call 19; refine (bytesIn _ _ hv hx _).mono ?_; rintro e w' ⟨rfl, rfl⟩)
      go_wp2_with fail
      refine (zz_insideStr v x (by omega) (by omega) _).mono ?_
      rintro e w1 ⟨z, hz, rfl, n1, rfl⟩
      have HZ := Lib.hid hz
      clear hz
      go_wp2_with fail
      refine (hasSub_any x v (by omega) (by omega) _).mono ?_
      rintro e w1 ⟨b, hb, rfl, n2, rfl⟩
      have HB := Lib.hid (first_has x v z b HZ.out hb)
      clear hb
      rw [HB.out]
      go_wp2
      go_ret
      exact ⟨ret_bool (by simp), _, rfl⟩
    · go_enter Tryz.func5, Tryz.ntmps5
      go_wp2_with (go_at_call 19; refine (bytesIn _ _ hv hx _).mono ?_; rintro e w' ⟨rfl, rfl⟩)
      all_goals (go_ret; exact ⟨rfl, 0, rfl⟩)
  · have h3' : 1048576 < v.size + x.size := by omega
    go_enter Tryz.func5, Tryz.ntmps5
    go_wp2_with (go_at_call 19; refine (bytesIn _ _ hv hx _).mono ?_; rintro e w' ⟨rfl, rfl⟩)
    go_ret
    exact ⟨rfl, 0, rfl⟩
end Go.Proofs.YtlhkbdeceogjgaaGreatDoor
