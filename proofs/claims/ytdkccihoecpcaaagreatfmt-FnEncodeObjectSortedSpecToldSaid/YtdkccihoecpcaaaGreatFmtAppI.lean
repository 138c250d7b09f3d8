/- A numeral appended to a row that the call owns, as the law does it. Conditions: at most 2 to the 47 bytes. -/
import Derived.Test.YtdkccihoecpcaaaGreatFmtOwn
import Derived.Lib.ItoaMem
import Derived.Lib.ItoaLen
import Derived.Lib.OthersKept
import Derived.Lib.BufferKept
namespace Go.Proofs.YtdkccihoecpcaaaGreatFmt
open Go.RowKit Go
theorem dig_byte (u : Nat) : IntKind.u8.wrap (48 + (u : Int) % 10) = ((UInt8.ofNat (48 + u % 10)).toNat : Int) := by
  have h : u % 10 < 10 := Nat.mod_lt _ (by omega)
  have e : (UInt8.ofNat (48 + u % 10)).toNat = 48 + u % 10 := by simp; omega
  rw [e, IntKind.wrap_u8]
  omega
theorem u64_in (x : Int) (h : 0 ≤ x ∧ x < 18446744073709551616) : IntKind.u64.wrap x = x := by rw [IntKind.wrap_u64]; omega
/-- What the loop keeps. -/
def Digs (D : List UInt8) (q : Nat) (l : List UInt8) : Prop := (q = 0 → l = D) ∧ (0 < q → Lib.decDigits q ++ l = D)
theorem digs_step {D : List UInt8} {q : Nat} {l : List UInt8} (h : Digs D q l) (hq : 0 < q) : Digs D (q / 10) (UInt8.ofNat (48 + q % 10) :: l) := by
  have h2 := h.2 hq
  rw [Lib.decDigits] at h2
  by_cases e : q < 10
  · rw [dif_pos e] at h2
    have e0 : q / 10 = 0 := by omega
    have e1 : q % 10 = q := by omega
    rw [e0, e1]
    exact ⟨fun _ => h2, fun h => by omega⟩
  · rw [dif_neg e] at h2
    refine ⟨fun h => by omega, fun _ => ?_⟩
    rw [List.append_assoc] at h2
    exact h2
theorem digs_len {u q : Nat} {l : List UInt8} (h : Digs (Lib.decDigits u) q l) (hq : 0 < q) (hu : u ≤ 9223372036854775808) : l.length ≤ 19 := by
  have h2 := congrArg List.length (h.2 hq)
  rw [List.length_append, Lib.decDigits_length, Lib.decDigits_length] at h2
  have h3 := Lib.nDigits_le20 u (by omega)
  have h4 : 1 ≤ Lib.nDigits q := by rw [Lib.nDigits]; split <;> omega
  omega
theorem digs_end {u : Nat} {l : List UInt8} (h : Digs (Lib.decDigits u) 0 l) (hu : u ≤ 9223372036854775808) : l = Lib.decDigits u ∧ 1 ≤ l.length ∧ l.length ≤ 20 := by
  have h1 := h.1 rfl
  refine ⟨h1, ?_, ?_⟩ <;> rw [h1, Lib.decDigits_length]
  · rw [Lib.nDigits]; split <;> omega
  · exact Lib.nDigits_le20 u (by omega)
/-- The law's buffer: l stands at its end. -/
def buf20 (l : List UInt8) : Array Value := (List.replicate (20 - l.length) (Value.int .u8 0) ++ Lib.byteCells l).toArray
theorem buf20_set (l : List UInt8) (c : UInt8) (i : Nat) (h : i + l.length = 19) : (buf20 l).setIfInBounds i (.int .u8 (c.toNat : Int)) = buf20 (c :: l) := by
  apply Array.ext'
  simp only [buf20, List.setIfInBounds_toArray, List.length_cons]
  have e : 20 - l.length = (20 - (l.length + 1)) + 1 := by omega
  have e2 : i = (List.replicate (20 - (l.length + 1)) (Value.int .u8 0)).length := by simp; omega
  rw [e, List.replicate_succ', List.append_assoc, e2, List.set_append_right _ _ (Nat.le_refl _), Nat.sub_self]
  simp [Lib.byteCells]
theorem buf20_get (l : List UInt8) (i : Nat) (h : i + l.length = 19) : (buf20 l)[i]? = some (.int .u8 0) := by
  simp only [buf20, List.getElem?_toArray]
  rw [List.getElem?_append_left (by simp; omega)]
  simp [List.getElem?_replicate]; omega
theorem buf20_at (l : List UInt8) (p j : Nat) (h : p + l.length = 20) (hj : j < l.length) : (buf20 l)[p + j]? = some (.int .u8 ((l[j]'hj).toNat : Int)) := by
  simp only [buf20, List.getElem?_toArray]
  rw [List.getElem?_append_right (by simp; omega)]
  have e2 : p + j - (List.replicate (20 - l.length) (Value.int .u8 0)).length = j := by simp; omega
  rw [e2]
  simp [Lib.byteCells, hj]
theorem buf20_nil : (#[Value.int .u8 0, Value.int .u8 0, Value.int .u8 0, Value.int .u8 0, Value.int .u8 0, Value.int .u8 0, Value.int .u8 0, Value.int .u8 0, Value.int .u8 0, Value.int .u8 0, Value.int .u8 0, Value.int .u8 0, Value.int .u8 0, Value.int .u8 0, Value.int .u8 0, Value.int .u8 0, Value.int .u8 0, Value.int .u8 0, Value.int .u8 0, Value.int .u8 0] : Array Value) = buf20 [] := rfl
theorem buf_tag : (57 : Nat) ≠ 5 := by decide
/-- A byte that has just been laid in a block of its own is appended; what is no row of bytes stays. -/
theorem app_byteK {ops : Array Oper} {rest : List Oper} {o : Oper} {a : Act} {Q : Exit → Act → World → Prop} (hgd : o.guard = none) (sl x : Operand)
    (ho : o.op = .call { callee := .builtin .append, args := #[sl, x], argTypes := #[29, 29 ] }) (B : Nat) (w : World) (v : Value) (l : List UInt8) (c : UInt8) (cs : Array Value) (t : TypeId) (b : Nat)
    (hcs : cs = #[.int .u8 (c.toNat : Int)]) (hb : b = w.heap.size) (hs : a.eval sl = v) (hx : a.eval x = .slice (some ⟨b, 0, none⟩) 1 1)
    (hown : Own B v l w) (hB : B ≤ w.heap.size) (hlim : l.length + 1 ≤ 140737488355328)
    (h : ∀ v' w', Own B v' (l ++ [c]) w' → Below B w w' → Lib.OthersKept 5 none w w' → wpList Tryz.prog ops Q rest (a.put o.dst v') w') : wpList Tryz.prog ops Q (o :: rest) a (w.alloc (.cells cs t)) := by
  obtain ⟨i0, hi, hz0, hz1, hz2⟩ := info_parts info_byte
  subst hcs hb
  have ha := World.ownsRow.alloc hown (.cells #[.int .u8 (c.toNat : Int)] t)
  refine wpList_append_own _ hgd sl x 29 ho B 5 i0 (.int .u8 0) 1 1 Tryz.underlying29 hi hz0 hz1 hz2 rfl (by decide) v l.length (Lib.byteCells l) hs ha ⟨w.heap.size, 0, none⟩ 1 1 (Lib.byteCells [c]) hx rfl ?_ (Lib.byteCells_one _) (by unfold maxLen; omega) (by omega) (by simp; omega) ?_
  · intro j u hj
    rw [Lib.addr_add, Nat.zero_add, World.cell?_alloc_new]
    simpa [Lib.byteCells] using hj
  · intro v' w' hown' hgrow _
    refine h v' w' ?_ ?_ ?_
    · unfold Own
      rw [List.length_append, ← byteCells_app']
      exact hown'
    · exact ((Below.refl B w).alloc hB _).grown hgrow (by simp; omega) (fun k hk => (World.ownsRow.lt ha k hk).1)
    · exact ((Lib.OthersKept.refl 5 none w).alloc _).grown hgrow (Lib.ownsRowF_kind (World.ownsRowF_of ha))
set_option maxRecDepth 100000 in
set_option maxHeartbeats 3200000 in
theorem appInt64 (B : Nat) (v : Value) (l : List UInt8) (z : Int) (hz : -9223372036854775808 ≤ z ∧ z ≤ 9223372036854775807) (w : World) (hv : Own B v l w) (hB : B ≤ w.heap.size) (hl : l.length ≤ 140737488355000) :
    Calls Tryz.prog 19 #[v, .int .i64 z] w fun e w' => ∃ v', e = .returned v' ∧ Own B v' (l ++ Lib.itoa z) w' ∧ Below B w w' := by
  obtain ⟨u0, hu0⟩ : ∃ u : Nat, u = z.natAbs := ⟨_, rfl⟩
  have h64 : u0 ≤ 9223372036854775808 := by omega
  have HV := Lib.hid hv
  clear hv
  by_cases hn : z < 0
  · have hvz : (z == 0) = false := by rw [beq_eq_false_iff_ne]; omega
    have e1 : IntKind.u64.wrap (-IntKind.u64.wrap z) = u0 := by rw [IntKind.wrap_u64, IntKind.wrap_u64]; omega
    have HP := Lib.hid (show 0 < u0 from by omega)
    have HR := Lib.hid (show l ++ Lib.itoa z = (l ++ [45]) ++ Lib.decDigits u0 from by unfold Lib.itoa; rw [if_pos hn, hu0]; simp)
    clear hu0
    go_enter Tryz.func19, Tryz.ntmps19
    go_wp2_with (at_builtin; refine app_byteK rfl _ _ rfl B _ _ l 45 _ _ _ rfl ?cb1 rfl rfl ?co1 ?cB1 ?cl1 ?_)
    case cb1 => rfl
    case co1 => exact HV.out
    case cB1 => exact hB
    case cl1 => omega
    intro v1 w1 ho hb hk
    have HO1 := Lib.hid ho
    have HB0 := Lib.hid hb
    have HBs := Lib.hid (show B ≤ w1.heap.size from Nat.le_trans hB hb.size)
    clear ho hb hk
    go_wp2
    go_loopw [5, 7] (fun u i wr => ∃ (q p : Nat) (m : List UInt8), q ≤ 9223372036854775808 ∧ p + m.length = 20 ∧ u = .int .u64 (q : Int) ∧ i = .int .i64 (p : Int) ∧ Hid (Digs (Lib.decDigits u0) q m) ∧ wr = w1.alloc (.cells (buf20 m) 57)) (fun u _ _ => (intOf u).toNat)
    case atStart => exact ⟨u0, 20, [], h64, rfl, rfl, rfl, Lib.hid ⟨fun h => absurd h (by have := HP.out; omega), fun _ => List.append_nil _⟩, by rw [← buf20_nil]⟩
    case round =>
      obtain ⟨q, p, m, hq, hpl, rfl, rfl, HD, rfl⟩ := hrel
      by_cases hq0 : 0 < q
      · have hlen := digs_len HD.out hq0 h64
        obtain ⟨p', rfl⟩ : ∃ p', p = p' + 1 := ⟨p - 1, by omega⟩
        have HSt := Lib.hid (digs_step HD.out hq0)
        obtain ⟨c, hc⟩ : ∃ c, c = UInt8.ofNat (48 + q % 10) := ⟨_, rfl⟩
        have hcb := dig_byte q
        rw [← hc] at hcb HSt
        have hset := buf20_set m c p' (by omega)
        have hget := buf20_get m p' (by omega)
        have HPL := Lib.hid (show p' + (c :: m).length = 20 from by simp; omega)
        have hp19 : p' ≤ 19 := by omega
        clear hc hpl
        go_wp2
        go_roundw
        case rel => exact ⟨q / 10, p', c :: m, by omega, HPL.out, by go_num, by go_num, HSt, rfl⟩
        case measure => simp [intOf]; omega
      · have hqz : q = 0 := by omega
        rw [hqz] at HD
        clear hqz
        obtain ⟨d1, d2, d3⟩ := digs_end HD.out h64
        have HM := Lib.hid d1
        obtain ⟨n, hn'⟩ : ∃ n, n = m.length := ⟨_, rfl⟩
        have HNm := Lib.hid hn'
        have hpn : p + n = 20 := by omega
        have HOw := Lib.hid (own_old HO1.out ((Below.refl w1.heap.size w1).alloc (Nat.le_refl _) (.cells (buf20 m) 57)))
        have HTB := Lib.hid (show (w1.alloc (.cells (buf20 m) 57)).heap[w1.heap.size]? = some (.cells (buf20 m) 57 (0, 0)) from heap_alloc_new _ _)
        have HBl := Lib.hid (show Below B w (w1.alloc (.cells (buf20 m) 57)) from (HB0.out).alloc HBs.out _)
        clear d1 d2 d3 hpl hn'
        generalize w1.alloc (.cells (buf20 m) 57) = W2 at HOw HTB HBl ⊢
        go_wp2
        go_loopw [0, 7] (fun out i wr => ∃ k : Nat, p ≤ k ∧ k ≤ 20 ∧ i = .int .i64 (k : Int) ∧ Hid (Own B out ((l ++ [45]) ++ m.take (k - p)) wr ∧ Below B w wr) ∧ Hid (wr.heap[w1.heap.size]? = some (.cells (buf20 m) 57 (0, 0)))) (fun _ i _ => 20 - (intOf i).toNat)
        case atStart => exact ⟨p, Nat.le_refl _, by omega, rfl, Lib.hid ⟨by rw [Nat.sub_self, List.take_zero, List.append_nil]; exact HOw.out, HBl.out⟩, HTB⟩
        case round =>
          obtain ⟨k, hk1, hk2, rfl, HO, HT⟩ := hrel
          obtain ⟨j, hj⟩ : ∃ j, j = k - p := ⟨_, rfl⟩
          rw [← hj] at HO
          have hkj : k = p + j := by omega
          by_cases hlt : k < 20
          · have hjm : j < m.length := by rw [← HNm.out]; omega
            have hcell : wr.cell? ⟨w1.heap.size, k, none⟩ = some (.int .u8 ((m[j]'hjm).toNat : Int)) := by
              rw [hkj]
              rw [Lib.cell_of_heap HT.out]
              exact buf20_at m p j (by rw [← HNm.out]; exact hpn) hjm
            have HJ := Lib.hid (show ((l ++ [45]) ++ m.take j) ++ [m[j]'hjm] = (l ++ [45]) ++ m.take (j + 1) from by rw [List.append_assoc, List.take_succ_eq_append_getElem hjm])
            have HLi := Lib.hid (show ((l ++ [45]) ++ m.take j).length + 1 ≤ 140737488355328 from by
              have := List.length_take_le j m
              simp
              omega)
            generalize m[j]'hjm = x at hcell HJ
            have HK := Lib.hid (show k + 1 - p = j + 1 from by omega)
            clear hjm hkj hj
            go_wp2_with (at_builtin; refine app_byteK rfl _ _ rfl B _ _ ((l ++ [45]) ++ m.take j) x _ _ _ rfl ?cb2 rfl rfl ?co2 ?cB2 ?cl2 ?_)
            case cb2 => rfl
            case co2 => exact HO.out.1
            case cB2 => exact Nat.le_trans hB HO.out.2.size
            case cl2 => exact HLi.out
            intro v2 w2 ho hb hk
            have HO2 := Lib.hid (show Own B v2 ((l ++ [45]) ++ m.take (j + 1)) w2 ∧ Below B w w2 from ⟨by rw [← HJ.out]; simpa using ho, HO.out.2.trans hb⟩)
            have HT2 := Lib.hid (hk _ _ HT.out (by simp) (fun c fz e => by simp only [Obj.cells.injEq] at e; exact buf_tag e.2.1))
            clear ho hb hk hcell
            go_wp2
            go_roundw
            case rel => exact ⟨k + 1, by omega, by omega, by go_num, by rw [HK.out]; exact HO2, HT2⟩
            case measure => simp [intOf]; omega
          · have hjn : j = n := by omega
            have HJn := Lib.hid hjn
            clear hkj hj hjn
            go_wp2
            go_ret
            exact ⟨_, rfl, by have e := HO.out.1; rw [List.take_of_length_le (by rw [← HNm.out, HJn.out]; exact Nat.le_refl _)] at e; rw [HR.out, ← HM.out]; exact e, HO.out.2⟩
  · have e1 : IntKind.u64.wrap z = u0 := by rw [IntKind.wrap_u64]; omega
    by_cases hz0 : u0 = 0
    · have hv0 : z = 0 := by omega
      subst hv0
      have HR := Lib.hid (show l ++ Lib.itoa 0 = l ++ [48] from by unfold Lib.itoa; rw [if_neg (by omega)]; show l ++ Lib.decDigits 0 = _; rw [Lib.decDigits]; rfl)
      clear e1 hu0 hz0
      go_enter Tryz.func19, Tryz.ntmps19
      go_wp2_with (at_builtin; refine app_byteK rfl _ _ rfl B _ _ l 48 _ _ _ rfl ?cb3 rfl rfl ?co3 ?cB3 ?cl3 ?_)
      case cb3 => rfl
      case co3 => exact HV.out
      all_goals try (first | exact hB | omega)
      intro v1 w1 ho hb hk
      have HO1 := Lib.hid ho
      have HB0 := Lib.hid hb
      clear ho hb hk
      go_wp2
      go_ret
      exact ⟨_, rfl, by rw [HR.out]; exact HO1.out, HB0.out⟩
    · have hvz : (z == 0) = false := by rw [beq_eq_false_iff_ne]; omega
      have HP := Lib.hid (show 0 < u0 from by omega)
      have HR := Lib.hid (show l ++ Lib.itoa z = l ++ Lib.decDigits u0 from by unfold Lib.itoa; rw [if_neg hn, show z.toNat = u0 from by omega])
      have HB0 := Lib.hid (Below.refl B w)
      have HBs := Lib.hid hB
      clear hu0 hz0
      go_enter Tryz.func19, Tryz.ntmps19
      go_wp2
      go_loopw [5, 7] (fun u i wr => ∃ (q p : Nat) (m : List UInt8), q ≤ 9223372036854775808 ∧ p + m.length = 20 ∧ u = .int .u64 (q : Int) ∧ i = .int .i64 (p : Int) ∧ Hid (Digs (Lib.decDigits u0) q m) ∧ wr = w.alloc (.cells (buf20 m) 57)) (fun u _ _ => (intOf u).toNat)
      case atStart => exact ⟨u0, 20, [], h64, rfl, rfl, rfl, Lib.hid ⟨fun h => absurd h (by have := HP.out; omega), fun _ => List.append_nil _⟩, by rw [← buf20_nil]⟩
      case round =>
        obtain ⟨q, p, m, hq, hpl, rfl, rfl, HD, rfl⟩ := hrel
        by_cases hq0 : 0 < q
        · have hlen := digs_len HD.out hq0 h64
          obtain ⟨p', rfl⟩ : ∃ p', p = p' + 1 := ⟨p - 1, by omega⟩
          have HSt := Lib.hid (digs_step HD.out hq0)
          obtain ⟨c, hc⟩ : ∃ c, c = UInt8.ofNat (48 + q % 10) := ⟨_, rfl⟩
          have hcb := dig_byte q
          rw [← hc] at hcb HSt
          have hset := buf20_set m c p' (by omega)
          have hget := buf20_get m p' (by omega)
          have HPL := Lib.hid (show p' + (c :: m).length = 20 from by simp; omega)
          have hp19 : p' ≤ 19 := by omega
          clear hc hpl
          go_wp2
          go_roundw
          case rel => exact ⟨q / 10, p', c :: m, by omega, HPL.out, by go_num, by go_num, HSt, rfl⟩
          case measure => simp [intOf]; omega
        · have hqz : q = 0 := by omega
          rw [hqz] at HD
          clear hqz
          obtain ⟨d1, d2, d3⟩ := digs_end HD.out h64
          have HM := Lib.hid d1
          obtain ⟨n, hn'⟩ : ∃ n, n = m.length := ⟨_, rfl⟩
          have HNm := Lib.hid hn'
          have hpn : p + n = 20 := by omega
          have HOw := Lib.hid (own_old HV.out ((Below.refl w.heap.size w).alloc (Nat.le_refl _) (.cells (buf20 m) 57)))
          have HTB := Lib.hid (show (w.alloc (.cells (buf20 m) 57)).heap[w.heap.size]? = some (.cells (buf20 m) 57 (0, 0)) from heap_alloc_new _ _)
          have HBl := Lib.hid (show Below B w (w.alloc (.cells (buf20 m) 57)) from (HB0.out).alloc HBs.out _)
          clear d1 d2 d3 hpl hn'
          generalize w.alloc (.cells (buf20 m) 57) = W2 at HOw HTB HBl ⊢
          go_wp2
          go_loopw [0, 7] (fun out i wr => ∃ k : Nat, p ≤ k ∧ k ≤ 20 ∧ i = .int .i64 (k : Int) ∧ Hid (Own B out (l ++ m.take (k - p)) wr ∧ Below B w wr) ∧ Hid (wr.heap[w.heap.size]? = some (.cells (buf20 m) 57 (0, 0)))) (fun _ i _ => 20 - (intOf i).toNat)
          case atStart => exact ⟨p, Nat.le_refl _, by omega, rfl, Lib.hid ⟨by rw [Nat.sub_self, List.take_zero, List.append_nil]; exact HOw.out, HBl.out⟩, HTB⟩
          case round =>
            obtain ⟨k, hk1, hk2, rfl, HO, HT⟩ := hrel
            obtain ⟨j, hj⟩ : ∃ j, j = k - p := ⟨_, rfl⟩
            rw [← hj] at HO
            have hkj : k = p + j := by omega
            by_cases hlt : k < 20
            · have hjm : j < m.length := by rw [← HNm.out]; omega
              have hcell : wr.cell? ⟨w.heap.size, k, none⟩ = some (.int .u8 ((m[j]'hjm).toNat : Int)) := by
                rw [hkj]
                rw [Lib.cell_of_heap HT.out]
                exact buf20_at m p j (by rw [← HNm.out]; exact hpn) hjm
              have HJ := Lib.hid (show (l ++ m.take j) ++ [m[j]'hjm] = l ++ m.take (j + 1) from by rw [List.append_assoc, List.take_succ_eq_append_getElem hjm])
              have HLi := Lib.hid (show (l ++ m.take j).length + 1 ≤ 140737488355328 from by
                have := List.length_take_le j m
                simp
                omega)
              generalize m[j]'hjm = x at hcell HJ
              have HK := Lib.hid (show k + 1 - p = j + 1 from by omega)
              clear hjm hkj hj
              go_wp2_with (at_builtin; refine app_byteK rfl _ _ rfl B _ _ (l ++ m.take j) x _ _ _ rfl ?cb4 rfl rfl ?co4 ?cB4 ?cl4 ?_)
              case cb4 => rfl
              case co4 => exact HO.out.1
              case cB4 => exact Nat.le_trans hB HO.out.2.size
              case cl4 => exact HLi.out
              intro v2 w2 ho hb hk
              have HO2 := Lib.hid (show Own B v2 (l ++ m.take (j + 1)) w2 ∧ Below B w w2 from ⟨by rw [← HJ.out]; simpa using ho, HO.out.2.trans hb⟩)
              have HT2 := Lib.hid (hk _ _ HT.out (by simp) (fun c fz e => by simp only [Obj.cells.injEq] at e; exact buf_tag e.2.1))
              clear ho hb hk hcell
              go_wp2
              go_roundw
              case rel => exact ⟨k + 1, by omega, by omega, by go_num, by rw [HK.out]; exact HO2, HT2⟩
              case measure => simp [intOf]; omega
            · have hjn : j = n := by omega
              have HJn := Lib.hid hjn
              clear hkj hj hjn
              go_wp2
              go_ret
              exact ⟨_, rfl, by have e := HO.out.1; rw [List.take_of_length_le (by rw [← HNm.out, HJn.out]; exact Nat.le_refl _)] at e; rw [HR.out, ← HM.out]; exact e, HO.out.2⟩
end Go.Proofs.YtdkccihoecpcaaaGreatFmt
