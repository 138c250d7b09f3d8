/- The standard encoding made: walked. Conditions: none. -/
import Derived.Test.YtlhndkonhjjcgaaGreatFmtOwn
import Derived.Lib.BufferWrite
import Derived.BigRegion
namespace Go.Proofs.YtlhndkonhjjcgaaGreatFmt
open Go.RowKit Go
/-- The block of an encoding: its symbols, the sign that fills. -/
def EncB (s : ByteArray) (b : Nat) (w : World) : Prop := ∃ cur, w.heap[b]? = some (.cells cur 148 (0, 0)) ∧ cur.size = 322 ∧ cur[320]? = some (.int .i32 61) ∧ ∀ j (h : j < s.size), cur[j]? = some (.int .u8 ((s[j]'h).toNat : Int))
/-- A copy whose run is known. -/
theorem wpList_cpy {P : Program} {w : World} {ops : Array Oper} {rest : List Oper} {o : Oper} {a : Act} {Q : Exit → Act → World → Prop} (hgd : o.guard = none) (sl x : Operand) (t u : TypeId)
    (ho : o.op = .call { callee := .builtin .copy, args := #[sl, x], argTypes := #[t, u] }) {sv xv v : Value} {w1 : World} (hs : a.eval sl = sv) (hx : a.eval x = xv)
    (hr : (Builtin.copy_ #[t, u] o.type #[sv, xv]).run P w = .ok v w1) (h : wpList P ops Q rest (a.put o.dst v) w1) : wpList P ops Q (o :: rest) a w := by
  refine wpList_plain hgd fun K hK => ?_
  unfold Oper.wp execOp
  simp only [ho, resolve, invoke, builtin, Sem.run_bind, Sem.run_pure, Result.andThen_ok, List.map_toArray, List.map_cons, List.map_nil, hs, hx, hr]
  exact hK _ _ h
theorem alloc_at (w : World) (o : Obj) : (w.alloc o).heap[w.heap.size]? = some o := by
  show (w.heap.push o)[w.heap.size]? = some o
  simp
theorem set_at (a : Array Value) (i : Nat) (v : Value) (h : i < a.size) : (a.setIfInBounds i v)[i]? = some v := by simp [h]
theorem below_row {B g : Nat} (w : World) (hBg : B ≤ g) (cs : Array Value) : Below B w (w.setRow g cs) :=
  ⟨rfl, rfl, rfl, by simp [World.setRow], fun k hk => setRow_other w g k cs (by omega)⟩
theorem info_u8s : (Tryz.prog.info? 5).map (·.size) = some 1 := by kernel_rfl
theorem zeroEnc_size : Tryz.zeroCells148.size = 322 := by kernel_rfl
set_option maxRecDepth 100000 in
/-- A string copied into a block of the call's own. -/
theorem cpy_at (w : World) (b o n : Nat) (t : ByteArray) (cur : Array Value) (ty : TypeId) (hg : w.heap[b]? = some (.cells cur ty (0, 0))) (hs : t.size = n) (hfit : o + n ≤ cur.size) :
    ∃ w' cur', (Builtin.copy_ #[24, 9 ] 3 #[.slice (some ⟨b, o, none⟩) n n, .string t]).run Tryz.prog w = .ok (.int .i64 (n : Int)) w' ∧ w'.heap[b]? = some (.cells cur' ty (0, 0)) ∧ cur'.size = cur.size ∧
      (∀ j, (j < o ∨ o + n ≤ j) → cur'[j]? = cur[j]?) ∧ (∀ j (h : j < t.size), cur'[o + j]? = some (.int .u8 ((t[j]'h).toNat : Int))) ∧ w' = w.setRow b cur' := by
  subst hs
  have h := Lib.run_copy_row_string (P := Tryz.prog) w 24 9 3 5 b o t.size t.size t cur ty Tryz.underlying24 info_u8s hg (Nat.le_refl _) hfit
  have hl : (Lib.byteCells t.data.toList).length = t.size := by rw [bc_len, ← Lib.size_eq]
  refine ⟨_, _, h, setRow_heap w b _ _ _ _ hg, ?_, ?_, ?_, rfl⟩
  · simp [hl]; omega
  · intro j hj
    rw [List.getElem?_toArray]
    rcases hj with hj | hj
    · rw [List.append_assoc, List.getElem?_append_left (by simp; omega), List.getElem?_take, if_pos hj, Array.getElem?_toList]
    · rw [List.getElem?_append_right (by simp [hl]; omega), List.getElem?_drop, ← Array.getElem?_toList]
      congr 1
      simp [hl]
      omega
  · intro j hj
    rw [List.getElem?_toArray, List.append_assoc, List.getElem?_append_right (by simp; omega)]
    rw [List.getElem?_append_left (by simp [hl]; omega)]
    simp [Lib.byteCells]
    refine ⟨t[j], ?_, rfl⟩
    rw [show o + j - min o cur.size = j from by omega]
    exact Array.getElem?_eq_getElem hj
theorem ffs_size : (⟨#[255, 255, 255, 255, 255, 255, 255, 255, 255, 255, 255, 255, 255, 255, 255, 255, 255, 255, 255, 255, 255, 255, 255, 255, 255, 255, 255, 255, 255, 255, 255, 255, 255, 255, 255, 255, 255, 255, 255, 255, 255, 255, 255, 255, 255, 255, 255, 255, 255, 255, 255, 255, 255, 255, 255, 255, 255, 255, 255, 255, 255, 255, 255, 255, 255, 255, 255, 255, 255, 255, 255, 255, 255, 255, 255, 255, 255, 255, 255, 255, 255, 255, 255, 255, 255, 255, 255, 255, 255, 255, 255, 255, 255, 255, 255, 255, 255, 255, 255, 255, 255, 255, 255, 255, 255, 255, 255, 255, 255, 255, 255, 255, 255, 255, 255, 255, 255, 255, 255, 255, 255, 255, 255, 255, 255, 255, 255, 255, 255, 255, 255, 255, 255, 255, 255, 255, 255, 255, 255, 255, 255, 255, 255, 255, 255, 255, 255, 255, 255, 255, 255, 255, 255, 255, 255, 255, 255, 255, 255, 255, 255, 255, 255, 255, 255, 255, 255, 255, 255, 255, 255, 255, 255, 255, 255, 255, 255, 255, 255, 255, 255, 255, 255, 255, 255, 255, 255, 255, 255, 255, 255, 255, 255, 255, 255, 255, 255, 255, 255, 255, 255, 255, 255, 255, 255, 255, 255, 255, 255, 255, 255, 255, 255, 255, 255, 255, 255, 255, 255, 255, 255, 255, 255, 255, 255, 255, 255, 255, 255, 255, 255, 255, 255, 255, 255, 255, 255, 255, 255, 255, 255, 255, 255, 255, 255, 255, 255, 255, 255, 255, 255, 255, 255, 255, 255, 255]⟩ : ByteArray).size = 256 := by kernel_rfl
theorem ffs_all : ∀ j : Fin 256, (⟨#[255, 255, 255, 255, 255, 255, 255, 255, 255, 255, 255, 255, 255, 255, 255, 255, 255, 255, 255, 255, 255, 255, 255, 255, 255, 255, 255, 255, 255, 255, 255, 255, 255, 255, 255, 255, 255, 255, 255, 255, 255, 255, 255, 255, 255, 255, 255, 255, 255, 255, 255, 255, 255, 255, 255, 255, 255, 255, 255, 255, 255, 255, 255, 255, 255, 255, 255, 255, 255, 255, 255, 255, 255, 255, 255, 255, 255, 255, 255, 255, 255, 255, 255, 255, 255, 255, 255, 255, 255, 255, 255, 255, 255, 255, 255, 255, 255, 255, 255, 255, 255, 255, 255, 255, 255, 255, 255, 255, 255, 255, 255, 255, 255, 255, 255, 255, 255, 255, 255, 255, 255, 255, 255, 255, 255, 255, 255, 255, 255, 255, 255, 255, 255, 255, 255, 255, 255, 255, 255, 255, 255, 255, 255, 255, 255, 255, 255, 255, 255, 255, 255, 255, 255, 255, 255, 255, 255, 255, 255, 255, 255, 255, 255, 255, 255, 255, 255, 255, 255, 255, 255, 255, 255, 255, 255, 255, 255, 255, 255, 255, 255, 255, 255, 255, 255, 255, 255, 255, 255, 255, 255, 255, 255, 255, 255, 255, 255, 255, 255, 255, 255, 255, 255, 255, 255, 255, 255, 255, 255, 255, 255, 255, 255, 255, 255, 255, 255, 255, 255, 255, 255, 255, 255, 255, 255, 255, 255, 255, 255, 255, 255, 255, 255, 255, 255, 255, 255, 255, 255, 255, 255, 255, 255, 255, 255, 255, 255, 255, 255, 255, 255, 255, 255, 255, 255, 255]⟩ : ByteArray)[j.val]'(by rw [ffs_size]; exact j.isLt) = 255 := by decide +kernel
set_option maxRecDepth 100000 in
set_option maxHeartbeats 3200000 in
theorem newEnc (s : ByteArray) (hs : s.size = 64) (hn : ∀ j (h : j < s.size), (s[j]'h).toNat ≠ 10 ∧ (s[j]'h).toNat ≠ 13) (hd : ∀ i j (hi : i < s.size) (hj : j < s.size), i < j → s[i]'hi ≠ s[j]'hj) (w : World) :
    Calls Tryz.prog 68 #[.string s] w fun e w' => ∃ b, e = .returned (.pointer (some ⟨b, 0, none⟩)) ∧ w.heap.size ≤ b ∧ EncB s b w' ∧ Below w.heap.size w w' := by
  have HN := Lib.hid hn
  have HD := Lib.hid hd
  obtain ⟨W1, c1, hr1, hg1, hz1, ho1, hi1, e1⟩ := cpy_at (w.alloc (Obj.cells (Tryz.zeroCells148.setIfInBounds 320 (Value.int IntKind.i32 61)) 148)) w.heap.size 0 64 s _ _ (alloc_at _ _) hs (by rw [Array.size_setIfInBounds, zeroEnc_size]; omega)
  have HB1 := Lib.hid (show Below w.heap.size w W1 from ((Below.refl _ _).alloc (Nat.le_refl _) _).trans (by rw [e1]; exact below_row _ (Nat.le_refl _) _))
  have HC1 := Lib.hid (show c1.size = 322 from by rw [hz1, Array.size_setIfInBounds, zeroEnc_size])
  have HP1 := Lib.hid (show c1[320]? = some (.int .i32 61) from by rw [ho1 320 (.inr (by omega))]; exact set_at _ _ _ (by rw [zeroEnc_size]; omega))
  have HI1 := Lib.hid (show ∀ j (h : j < s.size), c1[j]? = some (.int .u8 ((s[j]'h).toNat : Int)) from fun j hj => by have := hi1 j hj; rwa [Nat.zero_add] at this)
  have HG1 := Lib.hid hg1
  clear hn hd e1 hi1 ho1 hz1 hg1
  have hr1' := (show _ = Result.ok (Value.int .i64 64) W1 from hr1)
  clear hr1
  obtain ⟨W2, c2, hr2, hg2, hz2, ho2, hi2, e2⟩ := cpy_at W1 w.heap.size 64 256 ⟨#[255, 255, 255, 255, 255, 255, 255, 255, 255, 255, 255, 255, 255, 255, 255, 255, 255, 255, 255, 255, 255, 255, 255, 255, 255, 255, 255, 255, 255, 255, 255, 255, 255, 255, 255, 255, 255, 255, 255, 255, 255, 255, 255, 255, 255, 255, 255, 255, 255, 255, 255, 255, 255, 255, 255, 255, 255, 255, 255, 255, 255, 255, 255, 255, 255, 255, 255, 255, 255, 255, 255, 255, 255, 255, 255, 255, 255, 255, 255, 255, 255, 255, 255, 255, 255, 255, 255, 255, 255, 255, 255, 255, 255, 255, 255, 255, 255, 255, 255, 255, 255, 255, 255, 255, 255, 255, 255, 255, 255, 255, 255, 255, 255, 255, 255, 255, 255, 255, 255, 255, 255, 255, 255, 255, 255, 255, 255, 255, 255, 255, 255, 255, 255, 255, 255, 255, 255, 255, 255, 255, 255, 255, 255, 255, 255, 255, 255, 255, 255, 255, 255, 255, 255, 255, 255, 255, 255, 255, 255, 255, 255, 255, 255, 255, 255, 255, 255, 255, 255, 255, 255, 255, 255, 255, 255, 255, 255, 255, 255, 255, 255, 255, 255, 255, 255, 255, 255, 255, 255, 255, 255, 255, 255, 255, 255, 255, 255, 255, 255, 255, 255, 255, 255, 255, 255, 255, 255, 255, 255, 255, 255, 255, 255, 255, 255, 255, 255, 255, 255, 255, 255, 255, 255, 255, 255, 255, 255, 255, 255, 255, 255, 255, 255, 255, 255, 255, 255, 255, 255, 255, 255, 255, 255, 255, 255, 255, 255, 255, 255, 255, 255, 255, 255, 255, 255, 255]⟩ _ _ HG1.out ffs_size (by rw [HC1.out]; omega)
  have hr2' := (show _ = Result.ok (Value.int .i64 256) W2 from hr2)
  have HB2 := Lib.hid (show Below w.heap.size w W2 from HB1.out.trans (by rw [e2]; exact below_row _ (Nat.le_refl _) _))
  have HC2 := Lib.hid (show c2.size = 322 from by rw [hz2, HC1.out])
  have HP2 := Lib.hid (show c2[320]? = some (.int .i32 61) from by rw [ho2 320 (.inr (by omega)), HP1.out])
  have HI2 := Lib.hid (show ∀ j (h : j < s.size), c2[j]? = some (.int .u8 ((s[j]'h).toNat : Int)) from fun j hj => by rw [ho2 j (.inl (by omega)), HI1.out j hj])
  have HM2 := Lib.hid (show ∀ x, x < 256 → c2[64 + x]? = some (.int .u8 255) from fun x hx => by
    rw [hi2 x (by rw [ffs_size]; exact hx), ffs_all ⟨x, hx⟩]; rfl)
  have HG2 := Lib.hid hg2
  clear hr2 hg2 hz2 ho2 hi2 e2 HG1 HB1 HC1 HP1 HI1
  go_enter Tryz.func68, Tryz.ntmps68
  go_wp2
  clear hr1' hr2'
  go_loopw [4] (fun ix wr => ∃ (k : Nat) (cur : Array Value), k ≤ 64 ∧ ix = .int .i64 (k : Int) ∧ Hid (wr.heap[w.heap.size]? = some (.cells cur 148 (0, 0))) ∧ Hid (cur.size = 322) ∧ Hid (cur[320]? = some (.int .i32 61)) ∧
    Hid (∀ j (h : j < s.size), cur[j]? = some (.int .u8 ((s[j]'h).toNat : Int))) ∧ Hid (∀ x, x < 256 → (∀ i (h : i < s.size), i < k → (s[i]'h).toNat ≠ x) → cur[64 + x]? = some (.int .u8 255)) ∧ Hid (Below w.heap.size w wr)) (fun ix _ => 64 - (intOf ix).toNat)
  case atStart => exact ⟨0, c2, Nat.zero_le _, rfl, HG2, HC2, HP2, HI2, Lib.hid fun x hx _ => HM2.out x hx, HB2⟩
  case round =>
    obtain ⟨k, cur, hk, rfl, HG, HC, HP, HI, HM, HB⟩ := hrel
    clear HG2 HC2 HP2 HI2 HM2 HB2
    by_cases hlt : k < 64
    · have hkS : k < s.size := by omega
      have h255 := HM.out (s[k]'hkS).toNat (by have := (s[k]'hkS).toNat_lt; omega) (fun i hi hik e => HD.out i k hi hkS hik (UInt8.toNat.inj e))
      have n10 : (((s[k]'hkS).toNat : Int) == 10) = false := by have := HN.out k hkS; rw [beq_eq_false_iff_ne]; omega
      have n13 : (((s[k]'hkS).toNat : Int) == 13) = false := by have := HN.out k hkS; rw [beq_eq_false_iff_ne]; omega
      have x256 : (s[k]'hkS).toNat < 256 := by have := (s[k]'hkS).toNat_lt; omega
      have hc : wr.cell? ⟨w.heap.size, 64 + (s[k]'hkS).toNat, none⟩ = some (.int .u8 255) := by rw [Lib.cell_of_heap HG.out]; exact h255
      have hf : wr.frozen? ⟨w.heap.size, 64 + (s[k]'hkS).toNat, none⟩ = false := by simp [World.frozen?, HG.out]
      have hw : IntKind.u8.wrap (k : Int) = (k : Int) := by rw [IntKind.wrap_u8]; omega
      go_wp2
      all_goals try go_quiet (fail)
      all_goals go_wp2
      all_goals go_region
      all_goals go_wp2
      all_goals go_roundw
      case rel =>
        refine ⟨k + 1, _, by omega, by go_num, Lib.hid (heap_setCell_same _ _ _ _ _ _ (by exact HG.out)), Lib.hid (by rw [Array.size_setIfInBounds]; exact HC.out), Lib.hid ?_, Lib.hid ?_, Lib.hid ?_, Lib.hid ?_⟩
        · rw [Array.getElem?_setIfInBounds_ne (by omega)]; exact HP.out
        · intro j hj
          rw [Array.getElem?_setIfInBounds_ne (by omega)]; exact HI.out j hj
        · intro x hx hne
          rw [Array.getElem?_setIfInBounds_ne (by have := hne k hkS (by omega); omega)]
          exact HM.out x hx (fun i hi hik => hne i hi (by omega))
        · exact Below.setCell (show Below w.heap.size w (wr.drewN (nq + 1)) from HB.out.trans ⟨rfl, rfl, rfl, Nat.le_refl _, fun _ _ => rfl⟩) (p := ⟨w.heap.size, _, none⟩) (Nat.le_refl _) _
      case measure => simp [intOf]; omega
    · obtain rfl : k = 64 := by omega
      go_wp2
      go_ret
      exact ⟨_, rfl, Nat.le_refl _, ⟨cur, HG.out, HC.out, HP.out, HI.out⟩, HB.out⟩
end Go.Proofs.YtlhndkonhjjcgaaGreatFmt
