/- Cutting a string at each place where another one stands: zzSplit walked. Conditions: at most 65536 bytes, the divider at most 4096. -/
import Derived.Test.YtfmjeacjfnlhiaaGreatDoorCuts
import Derived.Test.YtfmjeacjfnlhiaaGreatDoorU8
import Derived.Laws.AppendOwn
import Derived.Laws.OwnMore
import Derived.OwnWalk
import Derived.Deep.RegionWith
import Derived.Outline
namespace Go.Proofs.YtfmjeacjfnlhiaaGreatDoor
open Go.RowKit Go
/-- v is a row of strings of the call's own. -/
def OwnS (B : Nat) (v : Value) (ps : List ByteArray) (w : World) : Prop := w.ownsRow B 9 1 v ps.length (ps.map Value.string)
theorem info_str : (Tryz.prog.info? 9).map (fun i => (i.zero, i.size, i.bytes)) = some (some (.string ⟨#[]⟩), 1, 16) := by kernel_rfl
theorem ownS_old {B : Nat} {v : Value} {ps : List ByteArray} {w w' : World} (h : OwnS B v ps w) (hb : Below w.heap.size w w') : OwnS B v ps w' :=
  ⟨h.1, h.2.imp_right fun ⟨g, cap, cur, hv, hB, hg, r⟩ => ⟨g, cap, cur, hv, hB, (hb.block g (Lib.lt_of_heap hg)).trans hg, r⟩⟩
theorem ownS_slice {B : Nat} {v : Value} {ps : List ByteArray} {w : World} (h : OwnS B v ps w) : ∃ ao c, v = .slice ao ps.length c := by
  rcases h.2 with ⟨hv, h0⟩ | ⟨g, cap, cur, hv, _⟩
  · exact ⟨none, 0, by rw [h0]; exact hv⟩
  · exact ⟨_, _, hv⟩
theorem ownS_cell {B : Nat} {ao : Option Addr} {n c : Nat} {ps : List ByteArray} {w : World} (h : OwnS B (.slice ao n c) ps w) (k : Nat) (hk : k < ps.length) : ∃ g, ao = some ⟨g, 0, none⟩ ∧ w.cell? ⟨g, k, none⟩ = some (.string (ps[k]'hk)) := by
  rcases h.2 with ⟨_, h0⟩ | ⟨g, cap, cur, hv, hB, hg, _, _, _, ht⟩
  · omega
  · simp only [Value.slice.injEq] at hv
    refine ⟨g, hv.1, ?_⟩
    rw [Lib.cell_of_heap hg, ← Array.getElem?_toList]
    have e : (cur.toList.take (ps.length * 1))[k]? = (ps.map Value.string)[k]? := by rw [ht]
    rw [List.getElem?_take, if_pos (by omega)] at e
    rw [e]
    simp [hk]
/-- A string that has just been laid in a block of its own is appended. -/
theorem app_str {ops : Array Oper} {rest : List Oper} {o : Oper} {a : Act} {Q : Exit → Act → World → Prop} (hgd : o.guard = none) (sl x : Operand)
    (ho : o.op = .call { callee := .builtin .append, args := #[sl, x], argTypes := #[23, 23 ] }) (B : Nat) (w : World) (v : Value) (ps : List ByteArray) (p : ByteArray) (t : TypeId) (b : Nat)
    (hb : b = w.heap.size) (hs : a.eval sl = v) (hx : a.eval x = .slice (some ⟨b, 0, none⟩) 1 1)
    (hown : OwnS B v ps w) (hB : B ≤ w.heap.size) (hlim : ps.length ≤ 1048576)
    (h : ∀ v' w', OwnS B v' (ps ++ [p]) w' → Below B w w' → wpList Tryz.prog ops Q rest (a.put o.dst v') w') : wpList Tryz.prog ops Q (o :: rest) a (w.alloc (.cells #[.string p] t)) := by
  obtain ⟨i0, hi, hz0, hz1, hz2⟩ := info_parts info_str
  subst hb
  refine wpList_append_own _ hgd sl x 23 ho B 9 i0 (.string ⟨#[]⟩) 1 16 Tryz.underlying23 hi hz0 hz1 hz2 rfl (by decide) v ps.length (ps.map Value.string) hs (World.ownsRow.alloc hown _) ⟨w.heap.size, 0, none⟩ 1 1 [.string p] hx rfl ?_ (by intro u hu; simp at hu; subst hu; rfl) (by unfold maxLen; omega) (by omega) (by simp; omega) ?_
  · intro j u hj
    rw [Lib.addr_add, Nat.zero_add, World.cell?_alloc_new]
    simpa using hj
  · intro v' w' hown' hgrow _
    refine h v' w' ?_ ?_
    · unfold OwnS
      rw [List.length_append, List.map_append]
      exact hown'
    · exact ((Below.refl B w).alloc hB _).grown hgrow (by simp; omega) (fun k hk => (World.ownsRow.lt (World.ownsRow.alloc hown (.cells #[.string p] t)) k hk).1)
def strLen : Value → Nat
  | .string s => s.size
  | _ => 0
theorem strLen_string (s : ByteArray) : strLen (.string s) = s.size := rfl
/-- What the cutting leaves. -/
def SplitPost (l r : ByteArray) (w : World) (e : Ending) (w' : World) : Prop := ∃ ps v, e = .returned v ∧ Whole l r ps ∧ ps.length ≤ 65537 ∧ OwnS w.heap.size v ps w' ∧ Below w.heap.size w w'
/-- The pieces so far are no more than the bytes that they took, and one. -/
theorem good_of_first {l r : ByteArray} {a k : Nat} (ha : a ≤ l.size) (hr : r.size ≠ 0) (hk : k + r.size ≤ l.size - a) (hn : ∀ j, j < k → occ (l.extract a l.size) r j = false) : Good l r (a, a + k) := by
  refine ⟨by simp, by simp only; omega, fun _ j hj => ?_, fun h => absurd h hr⟩
  simp only at hj
  have e := hn j (by omega)
  rw [rest_occ l r a j ha (by omega)] at e
  cases h2 : occ (pc l (a, a + k)) r j with
  | false => rfl
  | true =>
    rw [← e]
    have hs := pc_size l (a, a + k) (by simp) (by simp only; omega)
    simp only at hs
    refine (occ_yes l r (a + j) (by omega) fun i h1 h3 => ?_).symm
    have := occ_get _ r j (by omega) h2 i h3
    rw [← this, pc_get l (a, a + k) (by simp) (by simp only; omega)]
    congr 1
    simp only
    omega
theorem good_of_none {l r : ByteArray} {a : Nat} (ha : a ≤ l.size) (hr : r.size ≠ 0) (hn : ∀ j, j + r.size ≤ l.size - a → occ (l.extract a l.size) r j = false) : Good l r (a, l.size) := by
  refine ⟨ha, Nat.le_refl _, fun _ j hj => ?_, fun h => absurd h hr⟩
  exact hn j hj
theorem occ_empty (l r : ByteArray) (k : Nat) (hr : r.size = 0) (hk : k ≤ l.size) : occ l r k = true := occ_yes l r k (by omega) (fun j _ h => by omega)
theorem wid_of (s : ByteArray) (i : Nat) (h : i < s.size) : 1 ≤ wid s i ∧ i + wid s i ≤ s.size := by
  by_cases hb : 128 ≤ (s.get! i).toNat
  · rcases wid_cases s i h hb with ⟨e, _⟩ | ⟨e1, _, e2⟩ <;> omega
  · have e : wid s i = 1 := by
      unfold wid
      rw [decode_ascii s i h (by have := get!_at s i h; rw [← this]; omega)]
    omega
set_option maxRecDepth 100000 in
set_option maxHeartbeats 3200000 in
theorem split_empty (l r : ByteArray) (hr : r.size = 0) (hl : l.size ≤ 65536) (hl0 : l.size ≠ 0) (w : World) (hU : U8 w.heap.size w) : Calls Tryz.prog 26 #[.string l, .string r] w (SplitPost l r w) := by
  have hre : r.toList.isEmpty = true := by
    rw [Lib.toList_data]
    have : r.data.toList = [] := List.eq_nil_of_length_eq_zero (by rw [← Lib.size_eq]; exact hr)
    rw [this]; rfl
  have HU := Lib.hid hU
  have HR := Lib.hid hr
  have HL := Lib.hid hl0
  have HB0 := Lib.hid (show Below w.heap.size w (w.alloc (.cells #[] 9)) from (Below.refl _ _).alloc (Nat.le_refl _) _)
  have HO0 := Lib.hid (show OwnS w.heap.size (.slice (some ⟨w.heap.size, 0, none⟩) 0 0) [] (w.alloc (.cells #[] 9)) from World.ownsRow_made w #[] 0 (Nat.le_refl _) (by unfold maxLen; omega) rfl)
  have hext : l.extract 0 l.size = l := by simp
  clear hU hr hl0
  go_enter Tryz.func26, Tryz.ntmps26
  go_wp2
  generalize w.alloc (.cells #[] 9) = w1 at HB0 HO0 ⊢
  go_loopw [0, 5] (fun st out wr => ∃ (a : Nat) (t : ByteArray) (ps : List ByteArray), a ≤ l.size ∧ t.size = l.size - a ∧ ps.length ≤ a ∧ st = .string t ∧ Hid (t = l.extract a l.size) ∧ Hid (Pcs l r ps a) ∧ Hid (OwnS w.heap.size out ps wr ∧ Below w.heap.size w wr)) (fun st _ _ => strLen st)
  case atStart => exact ⟨0, l, [], Nat.zero_le _, rfl, Nat.zero_le _, rfl, Lib.hid hext.symm, Lib.hid (pcs_nil l r), Lib.hid ⟨HO0.out, HB0.out⟩⟩
  case round =>
    clear HO0 HB0 hext
    obtain ⟨a, t, ps, ha, hts, hpl, rfl, HT, HP, HO⟩ := hrel
    by_cases hlt : a < l.size
    · have HDec := Lib.hid (decode_any l a hlt w.heap.size wr (u8_below HU.out HO.out.2))
      rw [← HT.out] at HDec
      obtain ⟨m1, m2⟩ := wid_of l a hlt
      have HG := Lib.hid (show Pcs l r (ps ++ [pc l (a, a + wid l a)]) (a + wid l a) from by
        have := pcs_snoc HP.out (a + wid l a) ⟨by simp, m2, fun h => absurd HR.out h, fun _ => by simp only; omega⟩ (by rw [HR.out]; exact m2) (occ_empty l r _ HR.out m2)
        rw [HR.out] at this
        exact this)
      have hpos : 0 < t.size := by omega
      have hw1 : wid l a ≤ t.size := by omega
      have hpc := rest_piece l a (wid l a) m2
      have hrr := rest_rest l a (wid l a) m2
      rw [← HT.out] at hpc hrr
      have HPC := Lib.hid hpc
      have HRR := Lib.hid hrr
      obtain ⟨n, hn⟩ : ∃ n, n = wid l a := ⟨_, rfl⟩
      rw [← hn] at HDec HG HPC HRR m1 m2 hw1
      have hsz : (t.extract n (l.size - a)).size = l.size - (a + n) := by rw [ByteArray.size_extract]; omega
      clear hpc hrr hn
      generalize ((Utf8.decode l a).1 : Int) = ru at HDec
      go_wp2_with (first | (go_at_call 45; refine HDec.out.mono ?_; rintro e w2 ⟨rfl, hb2⟩; have HO2 := Lib.hid (show OwnS w.heap.size u5 ps w2 ∧ Below w.heap.size w w2 from ⟨ownS_old HO.out.1 hb2, HO.out.2.trans (hb2.mono HO.out.2.size)⟩); clear hb2) | (at_builtin; refine app_str rfl _ _ rfl w.heap.size _ _ ps _ _ _ ?cb1 rfl rfl ?co1 ?cB1 ?cl1 ?_))
      case cb1 => rfl
      case co1 => exact HO2.out.1
      case cB1 => exact HO2.out.2.size
      case cl1 => omega
      intro v' w3 ho hb
      have HO3 := Lib.hid (show OwnS w.heap.size v' (ps ++ [pc l (a, a + n)]) w3 ∧ Below w.heap.size w w3 from ⟨by rw [← HPC.out]; exact ho, HO2.out.2.trans hb⟩)
      clear ho hb
      go_wp2
      go_roundw
      case rel => exact ⟨a + n, _, _, m2, hsz, by simp; omega, rfl, HRR, HG, HO3⟩
      case measure => simp [strLen]; omega
    · have e0 : a = l.size := by omega
      have HW := Lib.hid (show Whole l r ps from whole_empty (by rw [← e0]; exact HP.out) HR.out HL.out)
      have hz : ¬ (0 < (t.size : Int)) := by omega
      clear e0 hlt
      go_wp2
      go_ret
      exact ⟨ps, _, rfl, HW.out, by omega, HO.out.1, HO.out.2⟩
set_option maxRecDepth 100000 in
set_option maxHeartbeats 3200000 in
theorem split_some (l r : ByteArray) (hr : r.size ≠ 0) (hl : l.size ≤ 65536) (hr2 : r.size ≤ 4096) (w : World) : Calls Tryz.prog 26 #[.string l, .string r] w (SplitPost l r w) := by
  have hre : r.toList.isEmpty = false := by
    rw [Lib.toList_data]
    cases h : r.data.toList with
    | nil => exact absurd (by rw [Lib.size_eq, h]; rfl) hr
    | cons a b => rfl
  have HR := Lib.hid hr
  have HB0 := Lib.hid (show Below w.heap.size w (w.alloc (.cells #[] 9)) from (Below.refl _ _).alloc (Nat.le_refl _) _)
  have HO0 := Lib.hid (show OwnS w.heap.size (.slice (some ⟨w.heap.size, 0, none⟩) 0 0) [] (w.alloc (.cells #[] 9)) from World.ownsRow_made w #[] 0 (Nat.le_refl _) (by unfold maxLen; omega) rfl)
  have hext : l.extract 0 l.size = l := by simp
  have hr1 : 0 < r.size := by omega
  clear hr
  go_enter Tryz.func26, Tryz.ntmps26
  go_wp2
  generalize w.alloc (.cells #[] 9) = w1 at HB0 HO0 ⊢
  go_loopw [0, 5] (fun st out wr => ∃ (a : Nat) (t : ByteArray) (ps : List ByteArray), a ≤ l.size ∧ t.size = l.size - a ∧ ps.length ≤ a ∧ st = .string t ∧ Hid (t = l.extract a l.size) ∧ Hid (Pcs l r ps a) ∧ Hid (OwnS w.heap.size out ps wr ∧ Below w.heap.size w wr)) (fun st _ _ => strLen st)
  case atStart => exact ⟨0, l, [], Nat.zero_le _, rfl, Nat.zero_le _, rfl, Lib.hid hext.symm, Lib.hid (pcs_nil l r), Lib.hid ⟨HO0.out, HB0.out⟩⟩
  case round =>
    clear HO0 HB0 hext
    obtain ⟨a, t, ps, ha, hts, hpl, rfl, HT, HP, HO⟩ := hrel
    have HI := Lib.hid (zzIndex_any t r (by omega) (by omega) wr)
    go_wp2_with fail
    try go_at_call 46
    refine HI.out.mono ?_
    rintro e w2 ⟨z, hf, rfl, nq, rfl⟩
    have HO2 := Lib.hid (show OwnS w.heap.size u5 ps (wr.drewN nq) ∧ Below w.heap.size w (wr.drewN nq) from ⟨HO.out.1, HO.out.2.trans ⟨rfl, rfl, rfl, Nat.le_refl _, fun _ _ => rfl⟩⟩)
    rcases hf with ⟨k, rfl, hk, ho, hn⟩ | ⟨rfl, hn⟩
    · have hka : k + r.size ≤ l.size - a := by omega
      have HG := Lib.hid (show Pcs l r (ps ++ [pc l (a, a + k)]) (a + k + r.size) from by
        rw [HT.out] at ho hn
        refine pcs_snoc HP.out (a + k) (good_of_first ha HR.out hka hn) (by omega) ?_
        rw [← rest_occ l r a k ha hka]; exact ho)
      have hpc := rest_piece l a k (by omega)
      have hrr := rest_rest l a (k + r.size) (by omega)
      rw [← HT.out] at hpc hrr
      obtain ⟨y, hy⟩ : ∃ y, y = k + r.size := ⟨_, rfl⟩
      have hsum : IntKind.i64.wrap ((k : Int) + r.size) = (y : Int) := by rw [IntWalk.i64_in _ (by omega)]; omega
      have hyt : y ≤ t.size := by omega
      have hkt : k ≤ t.size := by omega
      rw [← hy] at hrr
      have HPC := Lib.hid hpc
      have HRR := Lib.hid (show t.extract y (l.size - a) = l.extract (a + y) l.size from hrr)
      have HG2 := Lib.hid (show Pcs l r (ps ++ [pc l (a, a + k)]) (a + y) from by rw [hy, ← Nat.add_assoc]; exact HG.out)
      have hsz : (t.extract y (l.size - a)).size = l.size - (a + y) := by rw [ByteArray.size_extract]; omega
      have HYP := Lib.hid (show 0 < y ∧ a + y ≤ l.size from by omega)
      have kneg : ¬ ((k : Int) < 0) := by omega
      clear hpc hrr hn ho hk hka HG hy
      go_wp2_with (at_builtin; refine app_str rfl _ _ rfl w.heap.size _ _ ps _ _ _ ?cb1 rfl rfl ?co1 ?cB1 ?cl1 ?_)
      case cb1 => rfl
      case co1 => exact HO2.out.1
      case cB1 => exact HO2.out.2.size
      case cl1 => omega
      intro v' w3 ho hb
      have HO3 := Lib.hid (show OwnS w.heap.size v' (ps ++ [pc l (a, a + k)]) w3 ∧ Below w.heap.size w w3 from ⟨by rw [← HPC.out]; exact ho, HO2.out.2.trans hb⟩)
      clear ho hb
      go_wp2
      go_roundw
      case rel => exact ⟨a + y, _, _, HYP.out.2, hsz, by have := HYP.out.1; simp; omega, rfl, HRR, HG2, HO3⟩
      case measure => have := HYP.out; simp [strLen]; omega
    · have HW := Lib.hid (show Whole l r (ps ++ [t]) from by
        have := whole_snoc HP.out (good_of_none ha HR.out (fun j hj => by have e := hn j (by omega); rw [HT.out] at e; exact e))
        rw [show t = pc l (a, l.size) from HT.out]
        exact this)
      have HLn := Lib.hid (show (ps ++ [t]).length ≤ 65537 from by simp; omega)
      clear hn
      go_wp2_with (at_builtin; refine app_str rfl _ _ rfl w.heap.size _ _ ps _ _ _ ?cb2 rfl rfl ?co2 ?cB2 ?cl2 ?_)
      case cb2 => rfl
      case co2 => exact HO2.out.1
      case cB2 => exact HO2.out.2.size
      case cl2 => omega
      intro v' w3 ho hb
      have HO3 := Lib.hid (show OwnS w.heap.size v' (ps ++ [t]) w3 ∧ Below w.heap.size w w3 from ⟨ho, HO2.out.2.trans hb⟩)
      clear ho hb
      go_wp2
      go_ret
      exact ⟨_, _, rfl, HW.out, HLn.out, HO3.out.1, HO3.out.2⟩
end Go.Proofs.YtfmjeacjfnlhiaaGreatDoor
