/- The message on a repeated string, its preview, and the two laws on it: walked. Conditions: the tables lie as the row lists them. -/
import Derived.Shelf.Lays7
import Derived.Shelf.Spec.DecodeLastRune
import Derived.Test.YtdkccihoecpcaaaGreatFmtProg
import Derived.Test.YtdkccihoecpcaaaGreatFmtPrevL
import Derived.Test.YtdkccihoecpcaaaGreatFmtU8
import Derived.Lib.TrimU
import Derived.Test.YtdkccihoecpcaaaGreatFmtEncStrL
import Derived.Test.YtdkccihoecpcaaaGreatFmtEnL
import Derived.Laws.Concat
import Derived.Deep.RegionWith
import Derived.Test.YtdkccihoecpcaaaGreatFmtBldL
import Derived.Lib.ItoaMem
import Derived.Lib.ItoaLen
import Derived.Laws.IdiomStrings
import Derived.Laws.Slices
namespace Go.Proofs
open Go.Shelf
def Tryz.lays7n33_ren : Go.Shelf.Ren := ⟨fun | 32 => 63 | 33 => 51 | 49 => 83 | 50 => 62 | n => n, fun | 0 => 0 | 3 => 3 | 4 => 4 | 5 => 5 | 21 => 21 | 25 => 69 | 30 => 29 | 33 => 95 | 66 => 164 | 68 => 166 | 69 => 167 | n => n, fun | 2 => 2 | 3 => 3 | n => n⟩
theorem Tryz.lays7n33 : Go.Proofs.Lays7.n33 Tryz.prog Tryz.lays7n33_ren := {
  mixed := by kernel_rfl
  f32 := Tryz.func63.trans (congrArg some (by kernel_rfl))
  f33 := Tryz.func51.trans (congrArg some (by kernel_rfl))
  f49 := Tryz.func83.trans (congrArg some (by kernel_rfl))
  f50 := Tryz.func62.trans (congrArg some (by kernel_rfl))
  t0 := Tryz.underlying0
  a0 := Tryz.isAgg0
  z0 := Tryz.sizeOf0
  v0 := Tryz.zeroValue0
  i0 := by kernel_rfl
  t3 := Tryz.underlying3
  a3 := Tryz.isAgg3
  z3 := Tryz.sizeOf3
  v3 := Tryz.zeroValue3
  i3 := by kernel_rfl
  t4 := Tryz.underlying4
  a4 := Tryz.isAgg4
  z4 := Tryz.sizeOf4
  v4 := Tryz.zeroValue4
  i4 := by kernel_rfl
  t5 := Tryz.underlying5
  a5 := Tryz.isAgg5
  z5 := Tryz.sizeOf5
  v5 := Tryz.zeroValue5
  i5 := by kernel_rfl
  t21 := Tryz.underlying21
  a21 := Tryz.isAgg21
  z21 := Tryz.sizeOf21
  v21 := Tryz.zeroValue21
  i21 := by kernel_rfl
  t25 := Tryz.underlying69
  a25 := Tryz.isAgg69
  z25 := Tryz.sizeOf69
  v25 := Tryz.zeroValue69
  i25 := by kernel_rfl
  t30 := Tryz.underlying29
  a30 := Tryz.isAgg29
  z30 := Tryz.sizeOf29
  v30 := Tryz.zeroValue29
  i30 := by kernel_rfl
  t33 := Tryz.underlying95
  a33 := Tryz.isAgg95
  z33 := Tryz.sizeOf95
  v33 := Tryz.zeroValue95
  i33 := by kernel_rfl
  t66 := Tryz.underlying164
  a66 := Tryz.isAgg164
  z66 := Tryz.sizeOf164
  t68 := Tryz.underlying166
  a68 := Tryz.isAgg166
  z68 := Tryz.sizeOf166
  v68 := Tryz.zeroValue166
  i68 := by kernel_rfl
  t69 := Tryz.underlying167
  a69 := Tryz.isAgg167
  z69 := Tryz.sizeOf167
  v69 := Tryz.zeroValue167
  i69 := by kernel_rfl
  g2 := by kernel_rfl
  g3 := by kernel_rfl }
open Go.RowKit Go.Lib in
theorem Tryz.utf8_DecodeLastRune (s : ByteArray) (b off cap : Nat) (w : World) (hcap : s.size ≤ cap) (hp : ∀ j, j < s.size → w.cell? ⟨b, off + j, none⟩ = some (.int .u8 (s.get! j).toNat)) (hs : s.size ≤ 9223372036854775807) (hT : Lib.Utf8Tabs 2 3 w) :
    Calls Tryz.prog 51 #[.slice (some ⟨b, off, none⟩) s.size cap] w fun e w' => e = .returned (.tuple #[.int .i32 (Lib.decodeLastL s.data.toList).1, .int .i64 (Lib.decodeLastL s.data.toList).2]) ∧ Below w.heap.size w w' := Any7.utf8_DecodeLastRune Tryz.lays7n33 s b off cap w hcap hp hs hT
end Go.Proofs
namespace Go.Proofs.YtdkccihoecpcaaaGreatFmt
open Go.RowKit Go
set_option maxRecDepth 100000 in
set_option maxHeartbeats 1600000 in
theorem previewL_fit (v : Value) (T : List UInt8) (w : World) (henc : EncOkL w v T) (hl : T.length ≤ 30) : Calls Tryz.prog 39 #[v] w (RetB (.string ⟨T.toArray⟩) w) := by
  have hJ := jlmL v T w henc
  rw [List.take_of_length_le (by omega)] at hJ
  have HJ := Lib.hid hJ
  have hg : ¬ ((30 : Int) < (T.length : Int)) := by omega
  clear henc hJ
  go_enter Tryz.func39, Tryz.ntmps39
  go_wp2_with (go_at_call 50; refine HJ.out.mono ?_; rintro e w1 ⟨bb, _, rfl, hrow, hb⟩; have hx := run_lim_text bb T w1 hrow)
  go_ret
  exact ⟨rfl, hb⟩
theorem decodeL_le4 (l : List UInt8) : (Lib.decodeL l).2 ≤ 4 := by
  unfold Lib.decodeL
  rw [Lib.decode_at]
  unfold Lib.decodeN
  repeat' split
  all_goals simp
theorem last_le4 (l : List UInt8) : (Lib.decodeLastL l).2 ≤ 4 := by
  unfold Lib.decodeLastL
  split
  · simp
  · split
    · simp
    · simp only
      split
      · exact decodeL_le4 _
      · simp
theorem last_ascii (l : List UInt8) (h : 0 < l.length) (ha : (l[l.length - 1]'(by omega)).toNat < 128) : (Lib.decodeLastL l).2 = 1 := by
  unfold Lib.decodeLastL
  rw [if_neg (List.length_pos_iff.1 h), if_pos]
  rw [List.getD_eq_getElem?_getD, List.getElem?_eq_getElem (by omega)]
  exact ha
set_option maxRecDepth 100000 in
theorem run_cut_slice (bb m k : Nat) (h1 : k ≤ m) (h2 : m ≤ 32) (W : World) : (Instr.slice 29 (.slice (some ⟨bb, 0, none⟩) m 32) none (some (.int .i64 (k : Int))) none).run Tryz.prog W = .ok (.slice (some ⟨bb, 0, none⟩) k 32) W := by
  rw [run_slice_h (P := Tryz.prog) W 29 (some ⟨bb, 0, none⟩) m 32 Tryz.underlying29 .i64 (k : Int) (by omega) (by omega)]
  have hsz : ∀ W, (sizeOf (Tryz.prog.elem 29)).run Tryz.prog W = .ok 1 W := fun W => by kernel_rfl
  rw [hsz]
  simp [sliced, Result.andThen, Addr.add]
theorem limRow_cell (l : List UInt8) (w : World) (bb : Nat) (h : w.heap[bb]? = some (.cells (limRow l) 5 (0, 0))) (j : Nat) (hj : j < l.length) : w.cell? ⟨bb, j, none⟩ = some (.int .u8 ((l[j]'hj).toNat : Int)) := by
  simp only [World.cell?, h, limRow, List.getElem?_toArray]
  rw [List.getElem?_append_left (by rw [bc_len]; exact hj)]
  simp [Lib.byteCells, hj]
/-- The bytes that a text ends with when it has been cut. -/
def trS : ByteArray := ⟨#[32, 46, 46, 46, 34]⟩
theorem run_back_text (bb m : Nat) (L : List UInt8) (W : World) (hL : L.length ≤ 32) (hm : m + 5 ≤ 32) (hmL : m ≤ L.length) (h : W.heap[bb]? = some (.cells (putAt (limRow L) (0 + m) (Lib.strCells trS)) 5 (0, 0))) :
    (convert 29 9 (.slice (some ⟨bb, 0, none⟩) (m + 5) 32)).run Tryz.prog W = .ok (.string ⟨(L.take m ++ [32, 46, 46, 46, 34]).toArray⟩) W := by
  have hsz : (limRow L).size = 32 := by simp [limRow, bc_len]; omega
  have hlen : (L.take m ++ [32, 46, 46, 46, 34]).length = m + 5 := by rw [List.length_append, List.length_take]; simp only [List.length_cons, List.length_nil]; omega
  have key := run_convert_bytes_back W 29 9 5 ⟨bb, 0, none⟩ 32 (L.take m ++ [32, 46, 46, 46, 34]) Tryz.underlying29 Tryz.underlying5 Tryz.underlying9 (fun j hj => ?_)
  · rw [hlen] at key
    exact key
  · have e : (⟨bb, 0, none⟩ : Addr).add j = ⟨bb, j, none⟩ := by simp [Addr.add] <;> omega
    rw [e]
    have hst : Lib.strCells trS = Lib.byteCells [32, 46, 46, 46, 34] := rfl
    rw [hst] at h
    simp only [World.cell?, h]
    rw [hlen] at hj
    by_cases hjm : j < m
    · rw [putAt_low _ _ _ _ (by rw [hsz, bc_len]; simp; omega) (by omega)]
      simp only [limRow, List.getElem?_toArray]
      rw [List.getElem?_append_left (by rw [bc_len]; omega)]
      rw [List.getElem_append_left (by rw [List.length_take]; omega), List.getElem_take]
      simp [Lib.byteCells, show j < L.length by omega]
    · obtain ⟨i, rfl⟩ : ∃ i, j = m + i := ⟨j - m, by omega⟩
      have hi : i < 5 := by omega
      have hp := putAt_new (limRow L) (0 + m) (Lib.byteCells [32, 46, 46, 46, 34]) i (by rw [hsz, bc_len]; simp; omega) (by rw [bc_len]; exact hi)
      rw [Nat.zero_add] at hp
      rw [Nat.zero_add, hp]
      rw [List.getElem_append_right (by rw [List.length_take]; omega)]
      have hq : m + i - (L.take m).length = i := by rw [List.length_take]; omega
      simp only [hq, Lib.byteCells, List.getElem?_map]
      rw [List.getElem?_eq_getElem (by exact hi)]
      rfl
set_option maxRecDepth 100000 in
set_option maxHeartbeats 3200000 in
theorem previewL_cut (s : ByteArray) (T : List UInt8) (hT : 31 ≤ T.length) (w : World) (henc : EncOkL w (.iface 9 (.string s)) T) (hU : U8 w.heap.size w) (asc : Prop) (hasc : asc → ∀ j (hj : j < T.length), 25 ≤ j → (T[j]'hj).toNat < 128) :
    Calls Tryz.prog 39 #[.iface 9 (.string s)] w fun e w' => ∃ m, 22 ≤ m ∧ m ≤ 25 ∧ (asc → m = 25) ∧ e = .returned (.string ⟨(T.take m ++ [32, 46, 46, 46, 34]).toArray⟩) ∧ Below w.heap.size w w' := by
  have HJ := Lib.hid (jlmL _ T w henc)
  have HU := Lib.hid hU
  have hLl : 31 ≤ (T.take 32).length ∧ (T.take 32).length ≤ 32 := by rw [List.length_take]; omega
  have HTk := Lib.hid (show ∀ m, m ≤ 32 → (T.take 32).take m = T.take m from fun m hm => by rw [List.take_take, Nat.min_eq_left hm])
  have HAs := Lib.hid (show asc → ∀ j (hj : j < (T.take 32).length), 25 ≤ j → ((T.take 32)[j]'hj).toNat < 128 from fun ha j hj h25 => by
    rw [List.getElem_take]
    exact hasc ha j _ h25)
  clear henc hU hasc hT
  generalize T.take 32 = L at *
  obtain ⟨n, hn⟩ : ∃ n, n = L.length := ⟨_, rfl⟩
  have HN := Lib.hid hn
  rw [← hn] at HJ hLl
  obtain ⟨n1, n2⟩ := hLl
  have hg : (30 : Int) < (n : Int) := by omega
  clear hn
  go_enter Tryz.func39, Tryz.ntmps39
  go_wp2_with (go_at_call 50; refine HJ.out.mono ?_; rintro e w1 ⟨bb, hbb, rfl, hrow, hb⟩; have HR := Lib.hid (And.intro hrow hb); clear hrow hb)
  go_loopw [3] (fun bs wr => ∃ m : Nat, m ≤ n ∧ bs = .slice (some ⟨bb, 0, none⟩) m 32 ∧ Hid (22 ≤ m ∧ (asc → 25 ≤ m)) ∧ Hid (wr.heap[bb]? = some (.cells (limRow L) 5 (0, 0)) ∧ Below w.heap.size w wr)) (fun bs _ => match bs with | .slice _ m _ => m | _ => 0)
  case atStart => exact ⟨n, Nat.le_refl _, rfl, Lib.hid ⟨by omega, fun _ => by omega⟩, HR⟩
  case round =>
    clear HR
    obtain ⟨m, hmn, rfl, HM, HR⟩ := hrel
    by_cases h25 : 25 < m
    · have hlt : (25 : Int) < (m : Int) := by omega
      obtain ⟨sz, hsz⟩ : ∃ sz, sz = (Lib.decodeLastL (L.take m)).2 := ⟨_, rfl⟩
      obtain ⟨rn, hrn⟩ : ∃ rn, rn = (Lib.decodeLastL (L.take m)).1 := ⟨_, rfl⟩
      have hlm : (L.take m).length = m := by rw [List.length_take, ← HN.out]; omega
      have hw := Lib.decodeLastL_width (L.take m) (by omega)
      have h4 := last_le4 (L.take m)
      rw [hlm, ← hsz] at hw
      rw [← hsz] at h4
      have HM2 := Lib.hid (show 22 ≤ m - sz ∧ (asc → 25 ≤ m - sz) from ⟨by omega, fun ha => by
        have h1 := last_ascii (L.take m) (by omega) (by
          simp only [hlm, List.getElem_take]
          exact HAs.out ha (m - 1) _ (by omega))
        rw [hsz, h1]
        omega⟩)
      have HD := Lib.hid (show Calls Tryz.prog 51 #[.slice (some ⟨bb, 0, none⟩) m 32] wr (fun e w' => e = .returned (.tuple #[.int .i32 (rn : Int), .int .i64 (sz : Int)]) ∧ Below wr.heap.size wr w') from by
        have hs : (⟨(L.take m).toArray⟩ : ByteArray).size = m := hlm
        have h := Tryz.utf8_DecodeLastRune ⟨(L.take m).toArray⟩ bb 0 32 wr (by rw [hs]; omega) (fun j hj => by
          rw [hs] at hj
          rw [Nat.zero_add, limRow_cell L wr bb HR.out.1 j (by rw [← HN.out]; omega)]
          have e : (⟨(L.take m).toArray⟩ : ByteArray).get! j = (L.take m)[j]'(by omega) := by
            rw [get!_at _ _ (by rw [hs]; exact hj)]
            rfl
          rw [e, List.getElem_take]) (by rw [hs]; omega) (u8_below HU.out HR.out.2).1
        rw [hs] at h
        rw [hrn, hsz]
        exact h)
      obtain ⟨k, hk⟩ : ∃ k, k = m - sz := ⟨_, rfl⟩
      have hsub : (m : Int) - (sz : Int) = (k : Int) := by omega
      have hsl := run_cut_slice bb m k (by omega) (by omega)
      have hkm : k < m := by omega
      rw [← hk] at HM2
      clear hsz hrn hlm hw h4 hk
      go_wp2_with (go_at_call 51; refine HD.out.mono ?_; rintro e w2 ⟨rfl, hb2⟩; have HR2 := Lib.hid (show w2.heap[bb]? = some (.cells (limRow L) 5 (0, 0)) ∧ Below w.heap.size w w2 from ⟨(hb2.block bb (Lib.lt_of_heap HR.out.1)).trans HR.out.1, HR.out.2.trans (hb2.mono HR.out.2.size)⟩); clear hb2)
      go_roundw
      case rel => exact ⟨k, by omega, rfl, HM2, HR2⟩
      case measure => simp; omega
    · obtain ⟨hm1, hm2⟩ := HM.out
      have HA := Lib.hid hm2
      clear hm2
      obtain ⟨i, hi, hz⟩ := info_u8
      have hap := fun ty => run_append_at_string (P := Tryz.prog) wr 29 9 ty 5 5 i Tryz.underlying29 Tryz.underlying9 hi hz bb 0 m 32 (limRow L) HR.out.1 trS (by show m + 5 ≤ 32; omega) (by
        have : (limRow L).size = 32 := by simp [limRow, bc_len]; rw [← HN.out]; omega
        rw [this]; show 0 + m + 5 ≤ 32; omega)
      have hbk := run_back_text bb m L (wr.setRow bb (putAt (limRow L) (0 + m) (Lib.strCells trS))) (by rw [← HN.out]; exact n2) (by omega) (by rw [← HN.out]; exact hmn) (setRow_heap wr bb _ _ _ _ HR.out.1)
      have HB := Lib.hid (show Below w.heap.size w (wr.setRow bb (putAt (limRow L) (0 + m) (Lib.strCells trS))) from HR.out.2.trans ((((Touch.refl [bb] wr).setRow bb (.inl (by simp)) (putAt (limRow L) (0 + m) (Lib.strCells trS)))).below (by simpa using hbb) HR.out.2.size))
      rw [HTk.out m (by omega)] at hbk
      have hs5 : trS.size = 5 := rfl
      have htr : trS = ⟨#[32, 46, 46, 46, 34]⟩ := rfl
      rw [hs5] at hap
      rw [htr] at hap hbk HB
      clear hi hz htr hs5
      generalize putAt (limRow L) (0 + m) (Lib.strCells ⟨#[32, 46, 46, 46, 34]⟩) = R at *
      have hlt : ¬ ((25 : Int) < (m : Int)) := by omega
      go_wp2_with (at_builtin; refine wpList_app rfl _ _ _ _ rfl rfl rfl (hap _) ?_)
      go_ret
      exact ⟨m, hm1, by omega, fun ha => by have := HA.out ha; omega, rfl, HB.out⟩
end Go.Proofs.YtdkccihoecpcaaaGreatFmt
namespace Go.Proofs.YtdkccihoecpcaaaGreatFmt
open Go.RowKit Go
set_option maxRecDepth 100000 in
set_option maxHeartbeats 1600000 in
theorem encOkL_str (w : World) (s : ByteArray) (hs : s.size ≤ 1048576) (hU : U8 w.heap.size w) : EncOkL w (.iface 9 (.string s)) (quo s) := by
  intro w0 b eb hb h
  have HE := Lib.hid (encStrL h s hs (u8_below hU hb))
  clear h hU
  go_enter Tryz.func33, Tryz.ntmps33
  go_wp2_with (go_at_call 45; refine HE.out.mono ?_; rintro e w' (⟨rfl, hS, hF⟩ | hX); rotate_left; (obtain ⟨rfl, hX2, hX3, hX4⟩ := hX; exact ⟨rfl, Or.inr ⟨rfl, hX2, hX3, hX4⟩⟩))
  go_end0
  exact Or.inl ⟨rfl, hS, hF⟩
/-- The preview of a string: whole, or cut. -/
def PrevOf (s : ByteArray) (P : List UInt8) : Prop := ((quo s).length ≤ 30 ∧ P = quo s) ∨ (31 ≤ (quo s).length ∧ ∃ m, 22 ≤ m ∧ m ≤ 25 ∧ ((∀ j (hj : j < (quo s).length), 25 ≤ j → ((quo s)[j]'hj).toNat < 128) → m = 25) ∧ P = (quo s).take m ++ [32, 46, 46, 46, 34])
theorem prev_len {s : ByteArray} {P : List UInt8} (h : PrevOf s P) : 2 ≤ P.length ∧ P.length ≤ 30 := by
  rcases h with ⟨h1, rfl⟩ | ⟨h1, m, h2, h3, _, rfl⟩
  · refine ⟨?_, h1⟩
    unfold quo
    rw [List.length_cons, List.length_append, List.length_singleton]
    omega
  · rw [List.length_append, List.length_take]
    simp only [List.length_cons, List.length_nil]
    omega
theorem prev_str (s : ByteArray) (hs : s.size ≤ 1048576) (w : World) (hU : U8 w.heap.size w) : Calls Tryz.prog 39 #[.iface 9 (.string s)] w fun e w' => ∃ P, PrevOf s P ∧ e = .returned (.string ⟨P.toArray⟩) ∧ Below w.heap.size w w' := by
  by_cases h : (quo s).length ≤ 30
  · exact (previewL_fit _ _ w (encOkL_str w s hs hU) h).mono fun _ _ ⟨h1, h2⟩ => ⟨quo s, Or.inl ⟨h, rfl⟩, h1, h2⟩
  · exact (previewL_cut s (quo s) (by omega) w (encOkL_str w s hs hU) hU _ (fun ha => ha)).mono fun _ _ ⟨m, h1, h2, h3, h4, h5⟩ => ⟨_, Or.inr ⟨by omega, m, h1, h2, h3, rfl⟩, h4, h5⟩
theorem prev_strY (s : ByteArray) (hs : s.size ≤ 1048576) (w : World) (hU : U8 w.heap.size w) : Calls Tryz.prog 39 #[.iface 9 (.string s)] w fun e w' => ∃ Y : ByteArray, ((∃ P, PrevOf s P ∧ Y = ⟨P.toArray⟩) ∧ Y.size ≤ 30) ∧ e = .returned (.string Y) ∧ Below w.heap.size w w' :=
  (prev_str s hs w hU).mono fun _ _ ⟨P, h1, h2, h3⟩ => ⟨_, ⟨⟨P, h1, rfl⟩, (prev_len h1).2⟩, h2, h3⟩
theorem prev_flt (s : Bool) (r : Nat) (hr : r < 9223372036854775808) (w : World) (hP : P10 w.heap.size w) (hT : Tab w.heap.size w) : Calls Tryz.prog 39 #[.iface 22 (.float .f64 (Ieee.double.word s r))] w (RetB (.string ⟨(marT s r).toArray⟩) w) :=
  previewL_fit _ _ w (encOkL_float w s r hr hP hT) (by have := (marT_len s r).2; omega)
abbrev repA : ByteArray := ⟨#[114, 101, 112, 101, 97, 116, 32, 115, 116, 114, 105, 110, 103, 32, 114, 101, 115, 117, 108, 116, 32, 116, 111, 111, 32, 108, 97, 114, 103, 101, 58, 32]⟩
abbrev repM : ByteArray := ⟨#[32, 42, 32]⟩
theorem run_add_st (t : TypeId) (a b : ByteArray) (h : a.size + b.size ≤ 8388608) (w : World) : (binOp .add t (.string a) (.string b)).run Tryz.prog w = .ok (.string (a ++ b)) w := by
  simp only [binOp]
  exact run_string_add_sum w a b (by omega)
theorem sums3 (X N : ByteArray) (hX : X.size ≤ 100) (hN : N.size ≤ 100) : ∃ A B C, Hid (C = repA ++ X ++ repM ++ N) ∧
    (∀ ty w, (binOp .add ty (.string ⟨#[114, 101, 112, 101, 97, 116, 32, 115, 116, 114, 105, 110, 103, 32, 114, 101, 115, 117, 108, 116, 32, 116, 111, 111, 32, 108, 97, 114, 103, 101, 58, 32]⟩) (.string X)).run Tryz.prog w = .ok (.string A) w) ∧ (∀ ty w, (binOp .add ty (.string A) (.string ⟨#[32, 42, 32]⟩)).run Tryz.prog w = .ok (.string B) w) ∧ (∀ ty w, (binOp .add ty (.string B) (.string N)).run Tryz.prog w = .ok (.string C) w) := by
  have h1 : repA.size = 32 := rfl
  have h2 : repM.size = 3 := rfl
  refine ⟨repA ++ X, repA ++ X ++ repM, repA ++ X ++ repM ++ N, Lib.hid rfl, fun ty w => run_add_st ty _ _ (by rw [h1]; omega) w, fun ty w => run_add_st ty _ _ (by rw [ByteArray.size_append, h1, h2]; omega) w, fun ty w => run_add_st ty _ _ (by rw [ByteArray.size_append, ByteArray.size_append, h1, h2]; omega) w⟩
theorem tab_topL {B : Nat} {w : World} (h : Tab B w) : Tab w.heap.size w := by
  obtain ⟨h1, g, hg, h2, h3⟩ := h
  exact ⟨h1, g, hg, Nat.lt_of_lt_of_le h2 h3, Nat.le_refl _⟩
theorem p10_topL {B : Nat} {w : World} (h : P10 B w) : P10 w.heap.size w := ⟨h.1, Nat.lt_of_lt_of_le h.2.1 h.2.2, Nat.le_refl _⟩
theorem bcellL {W w1 : World} (hb : Below W.heap.size W w1) : (∀ b o, b < W.heap.size → w1.cell? ⟨b, o, none⟩ = W.cell? ⟨b, o, none⟩) ∧ (∀ b o, b < W.heap.size → w1.frozen? ⟨b, o, none⟩ = W.frozen? ⟨b, o, none⟩) :=
  ⟨fun b o h => hb.cell (p := ⟨b, o, none⟩) h, fun b o h => hb.frozen (p := ⟨b, o, none⟩) h⟩
theorem rowL_below {w w1 : World} {o : Obj} (hb : Below (w.alloc o).drew.heap.size (w.alloc o).drew w1) : Below w.heap.size w w1 := by
  have h1 : Below w.heap.size w (w.alloc o).drew := Below.drew ((Below.refl w.heap.size w).alloc (Nat.le_refl _) o)
  have h2 : Below w.heap.size (w.alloc o).drew w1 := hb.mono (by simp)
  exact h1.trans h2
/-- The whole message. -/
def repText (P N : List UInt8) : ByteArray := repA ++ ⟨P.toArray⟩ ++ repM ++ ⟨N.toArray⟩
set_option maxRecDepth 100000 in
set_option maxHeartbeats 3200000 in
theorem zz_rep (s : ByteArray) (hs : s.size ≤ 1048576) (n : Bool) (r : Nat) (hr : r < 9223372036854775808) (w : World) (hP : P10 w.heap.size w) (hT : Tab w.heap.size w) (hU : U8 w.heap.size w) :
    Calls Tryz.prog 9 #[.string s, .float .f64 (Ieee.double.word n r)] w fun e w' => ∃ P, PrevOf s P ∧ e = .returned (.string (repText P (marT n r))) ∧ Below w.heap.size w w' := by
  have HS := Lib.hid (fun (W : World) (hb : Below w.heap.size w W) => prev_strY s hs W (u8_at (u8_below hU hb)))
  have HF := Lib.hid (fun (W : World) (hb : Below w.heap.size w W) => prev_flt n r hr W (p10_topL (p10_below hP hb)) (tab_topL (tab_below hT hb)))
  have hns : (⟨(marT n r).toArray⟩ : ByteArray).size ≤ 29 := (marT_len n r).2
  have HNr := Lib.hid (show ∀ P : List UInt8, repText P (marT n r) = repA ++ ⟨P.toArray⟩ ++ repM ++ ⟨(marT n r).toArray⟩ from fun _ => rfl)
  clear hP hT hU
  generalize Ieee.double.word n r = X at *
  generalize (⟨(marT n r).toArray⟩ : ByteArray) = N at *
  go_enter Tryz.func9, Tryz.ntmps9
  go_wp2_with (go_at_call 31; go_in)
  go_region_with (first
    | (go_at_call_of 39 s; refine (HS.out _ ?_).mono ?_; (first | exact (Below.refl _ _).alloc (Nat.le_refl _) _ | exact Below.drew ((Below.refl _ _).alloc (Nat.le_refl _) _)); rintro e w1 ⟨Y, hp, rfl, hb1⟩; have hys := hp.2; obtain ⟨hc, hf⟩ := bcellL hb1; have HB1 := Lib.hid (rowL_below hb1); have HP := Lib.hid hp.1; clear hp)
    | (go_at_call_of 39 X; refine (HF.out _ ?_).mono ?_; exact HB1.out; rintro e w2 ⟨rfl, hb2⟩))
  all_goals go_wp2
  all_goals go_ret
  all_goals (obtain ⟨P, hP, rfl⟩ := HP.out; exact ⟨P, hP, by rw [HNr.out]; rfl, HB1.out.trans (hb2.mono HB1.out.size)⟩)
end Go.Proofs.YtdkccihoecpcaaaGreatFmt
namespace Go.Proofs.YtdkccihoecpcaaaGreatFmt
open Go.RowKit Go
/-- The law's buffer: l stands at its end. -/
def bufOf (l : List UInt8) : Array Value := (List.replicate (24 - l.length) (Value.int .u8 0) ++ Lib.byteCells l).toArray
theorem byteCells_len (l : List UInt8) : (Lib.byteCells l).length = l.length := bc_len l
theorem bufOf_size (l : List UInt8) (h : l.length ≤ 24) : (bufOf l).size = 24 := by simp [bufOf, byteCells_len]; omega
theorem bufOf_set (l : List UInt8) (c : UInt8) (i : Nat) (h : i + l.length = 23) : (bufOf l).setIfInBounds i (.int .u8 (c.toNat : Int)) = bufOf (c :: l) := by
  apply Array.ext'
  simp only [bufOf, List.setIfInBounds_toArray, List.length_cons]
  have e : 24 - l.length = (24 - (l.length + 1)) + 1 := by omega
  have e2 : i = (List.replicate (24 - (l.length + 1)) (Value.int .u8 0)).length := by simp; omega
  rw [e, List.replicate_succ', List.append_assoc, e2, List.set_append_right _ _ (Nat.le_refl _), Nat.sub_self]
  simp [Lib.byteCells]
theorem bufOf_get (l : List UInt8) (i : Nat) (h : i + l.length = 23) : (bufOf l)[i]? = some (.int .u8 0) := by
  simp only [bufOf, List.getElem?_toArray]
  rw [List.getElem?_append_left (by simp; omega)]
  simp [List.getElem?_replicate]; omega
theorem dig_byte (u : Nat) : IntKind.u8.wrap (48 + (u : Int) % 10) = ((UInt8.ofNat (48 + u % 10)).toNat : Int) := by
  have h : u % 10 < 10 := Nat.mod_lt _ (by omega)
  have e : (UInt8.ofNat (48 + u % 10)).toNat = 48 + u % 10 := by simp; omega
  rw [e, IntKind.wrap_u8]
  omega
theorem u64_in (x : Int) (h : 0 ≤ x ∧ x < 18446744073709551616) : IntKind.u64.wrap x = x := by rw [IntKind.wrap_u64]; omega
theorem bufOf_nil : (#[Value.int .u8 0, .int .u8 0, .int .u8 0, .int .u8 0, .int .u8 0, .int .u8 0, .int .u8 0, .int .u8 0, .int .u8 0, .int .u8 0, .int .u8 0, .int .u8 0, .int .u8 0, .int .u8 0, .int .u8 0, .int .u8 0, .int .u8 0, .int .u8 0, .int .u8 0, .int .u8 0, .int .u8 0, .int .u8 0, .int .u8 0, .int .u8 0] : Array Value) = bufOf [] := rfl
theorem bufOf_zero : (#[Value.int .u8 0, .int .u8 0, .int .u8 0, .int .u8 0, .int .u8 0, .int .u8 0, .int .u8 0, .int .u8 0, .int .u8 0, .int .u8 0, .int .u8 0, .int .u8 0, .int .u8 0, .int .u8 0, .int .u8 0, .int .u8 0, .int .u8 0, .int .u8 0, .int .u8 0, .int .u8 0, .int .u8 0, .int .u8 0, .int .u8 0, .int .u8 48] : Array Value) = bufOf [48] := rfl
theorem run_slice_buf (b p : Nat) (l : List UInt8) (h : p + l.length = 24) (hp : p < 24) (W : World) :
    (Instr.sliceAt 55 (.pointer (some ⟨b, 0, none⟩)) (some (.int .i64 p)) none none).run Tryz.prog W = .ok (.slice (some ⟨b, p, none⟩) l.length l.length) W := by
  have hal : Tryz.prog.arrayLen 55 = 24 := by kernel_rfl
  rw [run_sliceAt_array_l W 55 ⟨b, 0, none⟩ (by kernel_rfl) .i64 (p : Int) (by omega) (by rw [hal]; omega)]
  have hsz : ∀ W, (sizeOf (Tryz.prog.elem 55)).run Tryz.prog W = .ok 1 W := fun W => by kernel_rfl
  rw [hsz, hal]
  have e : l.length = 24 - p := by omega
  have hne : ¬ 24 = p := by omega
  simp [slicedAt, e, hne, Addr.add, Result.andThen]
  intro h; omega
theorem run_text (w : World) (p : Nat) (l : List UInt8) (h : p + l.length = 24) : (convert 29 9 (.slice (some ⟨w.heap.size, p, none⟩) l.length l.length)).run Tryz.prog (w.alloc (.cells (bufOf l) 55)) = .ok (.string ⟨l.toArray⟩) (w.alloc (.cells (bufOf l) 55)) := by
  refine run_convert_bytes_back _ 29 9 5 ⟨w.heap.size, p, none⟩ l.length l Tryz.underlying29 Tryz.underlying5 Tryz.underlying9 (fun j hj => ?_)
  have e : (⟨w.heap.size, p, none⟩ : Addr).add j = ⟨w.heap.size, p + j, none⟩ := by simp [Addr.add]
  rw [e, World.cell?_alloc_new]
  simp only [bufOf, List.getElem?_toArray]
  rw [List.getElem?_append_right (by simp; omega)]
  have e2 : p + j - (List.replicate (24 - l.length) (Value.int .u8 0)).length = j := by simp; omega
  rw [e2]
  simp [Lib.byteCells, hj]
/-- What the loop keeps. -/
def Digs (D : List UInt8) (q : Nat) (l : List UInt8) : Prop := (q = 0 → l = D) ∧ (0 < q → Lib.decDigits q ++ l = D)
theorem digs_step {D : List UInt8} {q : Nat} {l : List UInt8} (h : Digs D q l) (hq : 0 < q) : Digs D (q / 10) (UInt8.ofNat (48 + q % 10) :: l) := by
  have h2 := h.2 hq
  rw [Lib.decDigits] at h2
  by_cases e : q < 10
  · rw [dif_pos e] at h2
    have e0 : q / 10 = 0 := by omega
    have e1 : q % 10 = q := by omega
    rw [e0, e1]
    exact ⟨fun _ => h2, fun h => by omega⟩
  · rw [dif_neg e] at h2
    refine ⟨fun h => by omega, fun _ => ?_⟩
    rw [List.append_assoc] at h2
    exact h2
theorem digs_len {u q : Nat} {l : List UInt8} (h : Digs (Lib.decDigits u) q l) (hq : 0 < q) (hu : u ≤ 9223372036854775808) : l.length ≤ 19 := by
  have h2 := congrArg List.length (h.2 hq)
  rw [List.length_append, Lib.decDigits_length, Lib.decDigits_length] at h2
  have h3 := Lib.nDigits_le20 u (by omega)
  have h4 : 1 ≤ Lib.nDigits q := by rw [Lib.nDigits]; split <;> omega
  omega
theorem digs_end {u : Nat} {l : List UInt8} (h : Digs (Lib.decDigits u) 0 l) (hu : u ≤ 9223372036854775808) : l = Lib.decDigits u ∧ 1 ≤ l.length ∧ l.length ≤ 20 := by
  have h1 := h.1 rfl
  refine ⟨h1, ?_, ?_⟩ <;> rw [h1, Lib.decDigits_length]
  · rw [Lib.nDigits]; split <;> omega
  · exact Lib.nDigits_le20 u (by omega)
set_option maxRecDepth 100000 in
set_option maxHeartbeats 1600000 in
theorem zzItoa64_any (v : Int) (h : -9223372036854775808 ≤ v ∧ v ≤ 9223372036854775807) (w : World) :
    Calls Tryz.prog 14 #[.int .i64 v] w fun e w' => e = .returned (.string ⟨(Lib.itoa v).toArray⟩) ∧ Below w.heap.size w w' := by
  obtain ⟨u0, hu0⟩ : ∃ u : Nat, u = v.natAbs := ⟨_, rfl⟩
  have h64 : u0 ≤ 9223372036854775808 := by omega
  have HU := Lib.hid hu0
  by_cases hn : v < 0
  · have h1 : IntKind.i64.wrap (v + 1) = v + 1 := IntWalk.i64_in _ (by omega)
    have h2 : IntKind.i64.wrap (-(v + 1)) = -(v + 1) := IntWalk.i64_in _ (by omega)
    have h3 : IntKind.u64.wrap (-(v + 1)) = -(v + 1) := u64_in _ (by omega)
    have e1 : IntKind.u64.wrap (-(v + 1) + 1) = u0 := by rw [u64_in _ (by omega)]; omega
    have HVN := Lib.hid hn
    have hz : ((u0 : Int) == 0) = false := by rw [beq_eq_false_iff_ne]; omega
    have HP := Lib.hid (show 0 < u0 from by omega)
    clear hu0
    go_enter Tryz.func14, Tryz.ntmps14
    go_wp2
    go_loopw [4, 6] (fun u i wr => ∃ (q p : Nat) (l : List UInt8), q ≤ 9223372036854775808 ∧ p + l.length = 24 ∧ u = .int .u64 q ∧ i = .int .i64 p ∧ Hid (Digs (Lib.decDigits u0) q l) ∧ wr = w.alloc (.cells (bufOf l) 55)) (fun u _ _ => (intOf u).toNat)
    case atStart => exact ⟨u0, 24, [], h64, rfl, rfl, rfl, Lib.hid ⟨fun h => absurd h (by have := HP.out; omega), fun _ => List.append_nil _⟩, by rw [← bufOf_nil]⟩
    case round =>
      obtain ⟨q, p, l, hq, hpl, rfl, rfl, HD, rfl⟩ := hrel
      by_cases hq0 : 0 < q
      · have hlen := digs_len HD.out hq0 h64
        obtain ⟨p', rfl⟩ : ∃ p', p = p' + 1 := ⟨p - 1, by omega⟩
        have HS := Lib.hid (digs_step HD.out hq0)
        obtain ⟨c, hc⟩ : ∃ c, c = UInt8.ofNat (48 + q % 10) := ⟨_, rfl⟩
        have hcb := dig_byte q
        rw [← hc] at hcb HS
        have hset := bufOf_set l c p' (by omega)
        have hget := bufOf_get l p' (by omega)
        have HPL := Lib.hid (show p' + (c :: l).length = 24 from by simp; omega)
        have hp23 : p' ≤ 23 := by omega
        clear hc hpl
        go_wp2
        go_roundw
        case rel => exact ⟨q / 10, p', c :: l, by omega, HPL.out, by go_num, by go_num, HS, rfl⟩
        case measure => simp [intOf]; omega
      · obtain rfl : q = 0 := by omega
        obtain ⟨d1, d2, d3⟩ := digs_end HD.out h64
        have hp4 : 4 ≤ p := by omega
        obtain ⟨p', rfl⟩ : ∃ p', p = p' + 1 := ⟨p - 1, by omega⟩
        have hset : (bufOf l).setIfInBounds p' (.int .u8 45) = bufOf (45 :: l) := bufOf_set l 45 p' (by omega)
        have hget := bufOf_get l p' (by omega)
        have hsl := fun W => run_slice_buf w.heap.size p' (45 :: l) (by simp; omega) (by omega) W
        have htx := run_text w p' (45 :: l) (by simp; omega)
        have HR := Lib.hid (show (45 :: l) = Lib.itoa v from by rw [d1]; unfold Lib.itoa; rw [if_pos hn, HU.out])
        generalize (45 :: l) = L at hset hsl htx HR ⊢
        have hp23 : p' ≤ 23 := by omega
        clear d1 d2 d3 hpl
        go_wp2
        go_ret
        exact ⟨by rw [HR.out]; rfl, (Below.refl _ _).alloc (Nat.le_refl _) _⟩
  · have e1 : IntKind.u64.wrap v = u0 := by rw [u64_in v (by omega)]; omega
    by_cases hz0 : u0 = 0
    · have hv0 : v = 0 := by omega
      subst hv0
      subst hz0
      have e2 : Lib.itoa 0 = [48] := by unfold Lib.itoa; rw [if_neg (by omega)]; show Lib.decDigits 0 = [48]; rw [Lib.decDigits]; rfl
      rw [e2]
      clear e1 hu0 e2
      go_enter Tryz.func14, Tryz.ntmps14
      go_wp2
      go_ret
      exact ⟨rfl, Below.refl _ _⟩
    · have hz : ((u0 : Int) == 0) = false := by rw [beq_eq_false_iff_ne]; omega
      have HP := Lib.hid (show 0 < u0 from by omega)
      clear hu0 hz0
      go_enter Tryz.func14, Tryz.ntmps14
      go_wp2
      go_loopw [4, 6] (fun u i wr => ∃ (q p : Nat) (l : List UInt8), q ≤ 9223372036854775808 ∧ p + l.length = 24 ∧ u = .int .u64 q ∧ i = .int .i64 p ∧ Hid (Digs (Lib.decDigits u0) q l) ∧ wr = w.alloc (.cells (bufOf l) 55)) (fun u _ _ => (intOf u).toNat)
      case atStart => exact ⟨u0, 24, [], h64, rfl, rfl, rfl, Lib.hid ⟨fun h => absurd h (by have := HP.out; omega), fun _ => List.append_nil _⟩, by rw [← bufOf_nil]⟩
      case round =>
        obtain ⟨q, p, l, hq, hpl, rfl, rfl, HD, rfl⟩ := hrel
        by_cases hq0 : 0 < q
        · have hlen := digs_len HD.out hq0 h64
          obtain ⟨p', rfl⟩ : ∃ p', p = p' + 1 := ⟨p - 1, by omega⟩
          have HS := Lib.hid (digs_step HD.out hq0)
          obtain ⟨c, hc⟩ : ∃ c, c = UInt8.ofNat (48 + q % 10) := ⟨_, rfl⟩
          have hcb := dig_byte q
          rw [← hc] at hcb HS
          have hset := bufOf_set l c p' (by omega)
          have hget := bufOf_get l p' (by omega)
          have HPL := Lib.hid (show p' + (c :: l).length = 24 from by simp; omega)
          have hp23 : p' ≤ 23 := by omega
          clear hc hpl
          go_wp2
          go_roundw
          case rel => exact ⟨q / 10, p', c :: l, by omega, HPL.out, by go_num, by go_num, HS, rfl⟩
          case measure => simp [intOf]; omega
        · obtain rfl : q = 0 := by omega
          obtain ⟨d1, d2, d3⟩ := digs_end HD.out h64
          have hp4 : 4 ≤ p := by omega
          have hsl := fun W => run_slice_buf w.heap.size p l hpl (by omega) W
          have htx := run_text w p l hpl
          have HR := Lib.hid (show l = Lib.itoa v from by rw [d1]; unfold Lib.itoa; rw [if_neg (by omega), show v.toNat = u0 from by have := HU.out; omega])
          have hp23 : p ≤ 23 := by omega
          clear d1 d2 d3 hpl
          go_wp2
          go_ret
          exact ⟨by rw [HR.out]; rfl, (Below.refl _ _).alloc (Nat.le_refl _) _⟩
end Go.Proofs.YtdkccihoecpcaaaGreatFmt
namespace Go.Proofs.YtdkccihoecpcaaaGreatFmt
open Go.RowKit Go
/-- Printable ASCII but for the quote and the backslash. -/
def Plain (s : ByteArray) : Prop := ∀ i (h : i < s.size), 32 ≤ s[i].toNat ∧ s[i].toNat ≤ 126 ∧ s[i].toNat ≠ 34 ∧ s[i].toNat ≠ 92
theorem esc_plain (s : ByteArray) (hp : Plain s) : ∀ d i, i + d = s.size → escAt s i = sub s i s.size
  | 0, i, h => by
    obtain rfl : i = s.size := by omega
    rw [escAt_end, sub_self]
  | d + 1, i, h => by
    have hi : i < s.size := by omega
    obtain ⟨p1, p2, p3, p4⟩ := hp i hi
    have hg := get!_at s i hi
    rw [escAt_ascii s i hi (by rw [hg]; omega), esc_plain s hp d (i + 1) (by omega), ← sub_app s i (i + 1) s.size (by omega) (by omega), sub_one s i hi]
    rw [escB_plain _ (by rw [hg]; exact p1) (by rw [hg]; omega) (by rw [hg]; exact p3) (by rw [hg]; exact p4)]
theorem sub_whole (s : ByteArray) : sub s 0 s.size = s.data.toList := by
  rw [sub_eq, List.drop_zero, Nat.sub_zero, List.take_of_length_le (by rw [← Lib.size_eq]; exact Nat.le_refl _)]
theorem quo_plain (s : ByteArray) (hp : Plain s) : quo s = 34 :: (s.data.toList ++ [34]) := by
  unfold quo
  rw [esc_plain s hp s.size 0 (by omega), sub_whole]
theorem quo_plain_len (s : ByteArray) (hp : Plain s) : (quo s).length = s.size + 2 := by
  rw [quo_plain s hp, List.length_cons, List.length_append, List.length_singleton, ← Lib.size_eq]
theorem quo_ascii (s : ByteArray) (hp : Plain s) (j : Nat) (hj : j < (quo s).length) : ((quo s)[j]'hj).toNat < 128 := by
  have hl := quo_plain_len s hp
  have hm : (quo s)[j]'hj ∈ quo s := List.getElem_mem hj
  generalize (quo s)[j]'hj = c at hm
  rw [quo_plain s hp, List.mem_cons, List.mem_append, List.mem_singleton] at hm
  rcases hm with rfl | hm | rfl
  · decide
  · obtain ⟨i, hi, rfl⟩ := List.mem_iff_getElem.1 hm
    have hi2 : i < s.size := by rw [Lib.size_eq]; exact hi
    have := (hp i hi2).2.1
    have e : s.data.toList[i]'hi = s[i]'hi2 := rfl
    rw [e]
    omega
  · decide
/-- The preview of a plain string. -/
def plainT (s : ByteArray) : List UInt8 := if s.size + 2 ≤ 30 then 34 :: (s.data.toList ++ [34]) else 34 :: (s.data.toList.take 24 ++ [32, 46, 46, 46, 34])
theorem prev_plain (s : ByteArray) (hp : Plain s) (P : List UInt8) (h : PrevOf s P) : P = plainT s := by
  have hl := quo_plain_len s hp
  unfold plainT
  rcases h with ⟨h1, rfl⟩ | ⟨h1, m, h2, h3, h4, rfl⟩
  · rw [if_pos (by omega)]
    exact quo_plain s hp
  · rw [if_neg (by omega)]
    obtain rfl := h4 (fun j hj _ => quo_ascii s hp j hj)
    rw [quo_plain s hp, List.take_succ_cons, List.take_append_of_le_length (by rw [← Lib.size_eq]; omega)]
    rfl
theorem plainT_len (s : ByteArray) : (plainT s).length ≤ 30 := by
  unfold plainT
  have e := Lib.size_eq s
  split
  · rw [List.length_cons, List.length_append, List.length_singleton]; omega
  · rw [List.length_cons, List.length_append, List.length_take]; simp only [List.length_cons, List.length_nil]; omega
set_option maxRecDepth 100000 in
set_option maxHeartbeats 1600000 in
theorem plainA (s : ByteArray) (hs : s.size ≤ 1048576) (w : World) : Calls Tryz.prog 12 #[.string s] w fun e w' => ∃ b, e = .returned (.bool b) ∧ (b = true → Plain s) ∧ ∃ n, w' = w.drewN n := by
  go_enter Tryz.func12, Tryz.ntmps12
  go_wp2
  go_loopw [3] (fun i wr => ∃ k : Nat, k ≤ s.size ∧ i = .int .i64 (k : Int) ∧ Hid (∀ j (h : j < s.size), j < k → 32 ≤ s[j].toNat ∧ s[j].toNat ≤ 126 ∧ s[j].toNat ≠ 34 ∧ s[j].toNat ≠ 92) ∧ Hid (∃ nq, wr = w.drewN nq)) (fun i _ => s.size - (intOf i).toNat)
  case atStart => exact ⟨0, Nat.zero_le _, rfl, Lib.hid (fun j _ h => by omega), Lib.hid ⟨0, rfl⟩⟩
  case round =>
    obtain ⟨k, hk, rfl, HJ, HW⟩ := hrel
    by_cases hlt : k < s.size
    · by_cases hpl : 32 ≤ s[k].toNat ∧ s[k].toNat ≤ 126 ∧ s[k].toNat ≠ 34 ∧ s[k].toNat ≠ 92
      · obtain ⟨p1, p2, p3, p4⟩ := hpl
        have HX := Lib.hid (show ∀ j (h : j < s.size), j < k + 1 → 32 ≤ s[j].toNat ∧ s[j].toNat ≤ 126 ∧ s[j].toNat ≠ 34 ∧ s[j].toNat ≠ 92 from fun j h1 h2 => by
          by_cases e : j = k
          · subst e; exact ⟨p1, p2, p3, p4⟩
          · exact HJ.out j h1 (by omega))
        have q1 : (32 : Int) ≤ (s[k].toNat : Int) := by omega
        have q2 : (s[k].toNat : Int) ≤ 126 := by omega
        have q3 : ((s[k].toNat : Int) == 34) = false := by rw [beq_eq_false_iff_ne]; omega
        have q4 : ((s[k].toNat : Int) == 92) = false := by rw [beq_eq_false_iff_ne]; omega
        clear p1 p2 p3 p4
        go_wp2
        go_roundw
        case rel => exact ⟨k + 1, by omega, by go_num, HX, HW⟩
        case measure => simp [intOf]; omega
      · by_cases c1 : s[k].toNat < 32
        · have q1 : (s[k].toNat : Int) < 32 := by omega
          clear hpl c1
          go_wp2
          go_ret
          exact ⟨_, rfl, fun h => (by cases h), HW.out⟩
        · have q1 : (32 : Int) ≤ (s[k].toNat : Int) := by omega
          by_cases c2 : 126 < s[k].toNat
          · have q2 : (126 : Int) < (s[k].toNat : Int) := by omega
            clear hpl c1 c2
            go_wp2
            go_ret
            exact ⟨_, rfl, fun h => (by cases h), HW.out⟩
          · have q2 : (s[k].toNat : Int) ≤ 126 := by omega
            by_cases c3 : s[k].toNat = 34
            · have q3 : ((s[k].toNat : Int) == 34) = true := by rw [c3]; rfl
              clear hpl c1 c2 c3
              go_wp2
              go_ret
              exact ⟨_, rfl, fun h => (by cases h), HW.out⟩
            · have q3 : ((s[k].toNat : Int) == 34) = false := by rw [beq_eq_false_iff_ne]; omega
              have q4 : ((s[k].toNat : Int) == 92) = true := by rw [show s[k].toNat = 92 from by omega]; rfl
              clear hpl c1 c2 c3
              go_wp2
              go_ret
              exact ⟨_, rfl, fun h => (by cases h), HW.out⟩
    · go_wp2
      go_ret
      exact ⟨_, rfl, fun _ i hi => HJ.out i hi (by omega), HW.out⟩
theorem bcat (a b c : ByteArray) (L : List UInt8) (h : a.data.toList ++ b.data.toList ++ c.data.toList = L) : a ++ b ++ c = ⟨L.toArray⟩ := by
  apply ByteArray.ext
  apply Array.ext'
  rw [← h]
  simp [ByteArray.data_append]
set_option maxRecDepth 100000 in
set_option maxHeartbeats 1600000 in
theorem pps_any (s : ByteArray) (hs : s.size ≤ 1048576) (w : World) : Calls Tryz.prog 13 #[.string s] w (Ret (.string ⟨(plainT s).toArray⟩) w) := by
  unfold plainT
  by_cases h : s.size + 2 ≤ 30
  · rw [if_pos h]
    have h1 : (s.size : Int) + 2 ≤ 30 := by omega
    have HE := Lib.hid (bcat ⟨#[34]⟩ s ⟨#[34]⟩ (34 :: (s.data.toList ++ [34])) (by simp))
    generalize (⟨(34 :: (s.data.toList ++ [34])).toArray⟩ : ByteArray) = B at *
    go_enter Tryz.func13, Tryz.ntmps13
    go_wp2
    go_ret
    exact ⟨by rw [← HE.out]; rfl, rfl⟩
  · rw [if_neg h]
    have h1 : ¬ ((s.size : Int) + 2 ≤ 30) := by omega
    have h24 : (s.extract 0 24).size = 24 := by rw [ByteArray.size_extract]; omega
    have HE := Lib.hid (bcat ⟨#[34]⟩ (s.extract 0 24) ⟨#[32, 46, 46, 46, 34]⟩ (34 :: (s.data.toList.take 24 ++ [32, 46, 46, 46, 34])) (by rw [Lib.extract_data s 0 24]; simp))
    have h2 : (24 : Int) ≤ (s.size : Int) := by omega
    generalize (⟨(34 :: (s.data.toList.take 24 ++ [32, 46, 46, 46, 34])).toArray⟩ : ByteArray) = B at *
    go_enter Tryz.func13, Tryz.ntmps13
    go_wp2
    go_ret
    exact ⟨by rw [← HE.out]; rfl, rfl⟩
end Go.Proofs.YtdkccihoecpcaaaGreatFmt
namespace Go.Proofs.YtdkccihoecpcaaaGreatFmt
open Go.RowKit Go
set_option maxRecDepth 100000 in
theorem bytesRB_yes (s : ByteArray) (X : Nat) (hs : s.size ≤ 1048576) (w : World) : Calls Tryz.prog 8 #[.string s, .float .f64 X] w (Ret (.bool true) w) := by
  go_enter Tryz.func8, Tryz.ntmps8
  go_wp2
  go_ret
  exact ⟨rfl, rfl⟩
set_option maxRecDepth 100000 in
theorem bytesRB_no (s : ByteArray) (X : Nat) (h1 : 1048576 < s.size) (h2 : s.size ≤ 9223372036854775807) (w : World) : Calls Tryz.prog 8 #[.string s, .float .f64 X] w (Ret (.bool false) w) := by
  go_enter Tryz.func8, Tryz.ntmps8
  go_wp2
  go_ret
  exact ⟨rfl, rfl⟩
set_option maxRecDepth 100000 in
theorem bytesRM_yes (s : ByteArray) (X : Nat) (hs : s.size ≤ 1048576) (w : World) : Calls Tryz.prog 11 #[.string s, .float .f64 X] w (Ret (.bool true) w) := by
  go_enter Tryz.func11, Tryz.ntmps11
  go_wp2
  go_ret
  exact ⟨rfl, rfl⟩
set_option maxRecDepth 100000 in
theorem bytesRM_no (s : ByteArray) (X : Nat) (h1 : 1048576 < s.size) (h2 : s.size ≤ 9223372036854775807) (w : World) : Calls Tryz.prog 11 #[.string s, .float .f64 X] w (Ret (.bool false) w) := by
  go_enter Tryz.func11, Tryz.ntmps11
  go_wp2
  go_ret
  exact ⟨rfl, rfl⟩
theorem rep_size (P N : List UInt8) : (repText P N).size = 35 + P.length + N.length := by
  unfold repText
  rw [ByteArray.size_append, ByteArray.size_append, ByteArray.size_append]
  show 32 + P.length + 3 + N.length = _
  omega
theorem rep_head (P N : List UInt8) : (repText P N).extract 0 32 = repA := by
  apply ByteArray.ext
  apply Array.ext'
  rw [Lib.extract_data]
  unfold repText
  simp [ByteArray.data_append]
set_option maxRecDepth 100000 in
set_option maxHeartbeats 1600000 in
theorem hasPre (P N : List UInt8) (hP : P.length ≤ 30) (hN : N.length ≤ 29) (w : World) : Calls Tryz.prog 10 #[.string (repText P N), .string ⟨#[114, 101, 112, 101, 97, 116, 32, 115, 116, 114, 105, 110, 103, 32, 114, 101, 115, 117, 108, 116, 32, 116, 111, 111, 32, 108, 97, 114, 103, 101, 58, 32]⟩] w (Ret (.bool true) w) := by
  have hsz := rep_size P N
  have hh := rep_head P N
  generalize repText P N = R at *
  have h1 : 32 ≤ R.size := by omega
  have h2 : (32 : Int) ≤ (R.size : Int) := by omega
  have h3 : R.size ≤ 100 := by omega
  have he : ((R.extract 0 32).toList == (⟨#[114, 101, 112, 101, 97, 116, 32, 115, 116, 114, 105, 110, 103, 32, 114, 101, 115, 117, 108, 116, 32, 116, 111, 111, 32, 108, 97, 114, 103, 101, 58, 32]⟩ : ByteArray).toList) = true := by rw [hh]; simp
  clear hsz hh
  go_enter Tryz.func10, Tryz.ntmps10
  go_wp2
  go_ret
  exact ⟨by first | rfl | simpa using he, rfl⟩
def LawPostR (w : World) (e : Ending) (w' : World) : Prop := e = .returned (.bool true) ∧ Below w.heap.size w w'
set_option maxRecDepth 100000 in
set_option maxHeartbeats 1600000 in
theorem lawRepB (s : ByteArray) (hm : s.size ≤ 9223372036854775807) (x : Nat) (hx : x < 18446744073709551616) (w : World) (hP : P10 w.heap.size w) (hT : Tab w.heap.size w) (hU : U8 w.heap.size w) : Calls Tryz.prog 3 #[.string s, .float .f64 x] w (LawPostR w) := by
  obtain ⟨n, r, rfl, hr⟩ := word_split x hx
  by_cases hs : s.size ≤ 1048576
  · have HB := Lib.hid (bytesRB_yes s (Ieee.double.word n r) hs)
    have HZ := Lib.hid (zz_rep s hs n r hr w hP hT hU)
    have HL := Lib.hid (marT_len n r)
    clear hP hT hU hr
    generalize Ieee.double.word n r = X at *
    generalize marT n r = N at *
    go_enter Tryz.func3, Tryz.ntmps3
    go_wp2_with (go_at_call 8; refine (HB.out _).mono ?_; rintro e w' ⟨rfl, rfl⟩)
    try go_at_call 9
    refine HZ.out.mono ?_
    rintro e w1 ⟨P, hp, rfl, hb⟩
    have HPL := Lib.hid (prev_len hp)
    have HH := Lib.hid (hasPre P N (prev_len hp).2 HL.out.2)
    have hsz := rep_size P N
    have l1 : 38 ≤ (repText P N).size := by have := HPL.out; have := HL.out; omega
    have l2 : (repText P N).size ≤ 95 := by have := HPL.out; have := HL.out; omega
    have HBe := Lib.hid hb
    clear hp hb hsz
    generalize repText P N = R at *
    go_wp2_with (go_at_call 10; refine (HH.out _).mono ?_; rintro e w' ⟨rfl, rfl⟩)
    go_ret
    exact ⟨by first | rfl | simp <;> omega, HBe.out⟩
  · have HB := Lib.hid (bytesRB_no s (Ieee.double.word n r) (by omega) hm)
    clear hP hT hU
    go_enter Tryz.func3, Tryz.ntmps3
    go_wp2_with (go_at_call 8; refine (HB.out _).mono ?_; rintro e w' ⟨rfl, rfl⟩)
    go_ret
    exact ⟨rfl, Below.refl _ _⟩
theorem sv_geL (s : Bool) (r q : Nat) (h0 : 0 < q) : (decide (sv false q < sv s r) || decide (sv s r = sv false q)) = decide (s = false ∧ q ≤ r) := by
  rw [Bool.eq_iff_iff]
  unfold sv
  cases s <;> simp <;> omega
theorem ord_geL (s : Bool) (r q : Nat) (hr : r ≤ 9218868437227405312) (hq : q ≤ 9218868437227405312) (h0 : 0 < q) : (FloatKind.f64.format.order (Ieee.double.word s r) q == some .gt || FloatKind.f64.format.order (Ieee.double.word s r) q == some .eq) = decide (s = false ∧ q ≤ r) := by
  obtain ⟨_, b, c⟩ := ord_pair s false r q hr hq
  rw [word_false] at b c
  rw [b, c]
  exact sv_geL s r q h0
theorem toIntWL (s : Bool) (r : Nat) (hr : r < Ieee.double.infRung) (h : whole r < 9223372036854775808) :
    floatToIntVal .f64 (Ieee.double.word s r) .i64 = some (if s = true then -(whole r : Int) else (whole r : Int)) := by
  have e : (FloatKind.f64.decode (Ieee.double.word s r)).toInt .zero = some (if s = true then -(whole r : Int) else (whole r : Int)) := by
    show (Ieee.double.read (Ieee.double.word s r)).toInt .zero = _
    rw [read_finite s r hr]
    show some (Ieee.signed s (Ieee.Toward.zero.cut s (mg r <<< (pl r).toNat) (-(pl r)).toNat) 0) = _
    rw [cut_whole]
    unfold Ieee.signed
    rw [Nat.shiftLeft_zero]
  unfold floatToIntVal
  rw [e]
  have h1 : IntKind.i64.min = -9223372036854775808 := by decide
  have h2 : IntKind.i64.max = 9223372036854775807 := by decide
  show (if IntKind.i64.min ≤ _ ∧ _ ≤ IntKind.i64.max then some _ else none) = _
  rw [h1, h2, if_pos (by cases s <;> simp <;> omega)]
theorem run_cv64L (s : Bool) (r : Nat) (hr : r < Ieee.double.infRung) (h : whole r < 9223372036854775808) (w : World) :
    (convert 22 2 (.float .f64 (Ieee.double.word s r))).run Tryz.prog w = .ok (.int .i64 (if s = true then -(whole r : Int) else (whole r : Int))) w :=
  run_convert_float_int w 22 2 .f64 .i64 _ _ (by kernel_rfl) Tryz.underlying2 (toIntWL s r hr h)
/-- A small int as a float. -/
theorem fi_smallL (n : Nat) (h : n < 2 * E52) (h0 : 0 < n) : ∃ u, u < Ieee.double.infRung ∧ floatOfInt .f64 (n : Int) = Ieee.double.word false u ∧ val u = n * U := by
  obtain ⟨u, h1, h2⟩ : ∃ u, u < Ieee.double.infRung ∧ val u = n * 2 ^ (0 + 1074 : Int).toNat := is_float _ _ h (by omega)
  have h3 : val u = n * U := by
    have e : (0 + 1074 : Int).toNat = place := by decide
    rw [e] at h2
    rw [h2, U_eq]
  refine ⟨u, h1, ?_, h3⟩
  show Ieee.double.nearest (decide ((n : Int) < 0)) (n : Int).natAbs 0 = _
  have e1 : decide ((n : Int) < 0) = false := decide_eq_false (by omega)
  have e2 : (n : Int).natAbs = n := by simp
  rw [e1, e2]
  exact write_val false n 0 u (by omega) h1 h0 h2.symm
/-- How the law's premise on the count turns out. -/
theorem premise (n : Bool) (r : Nat) (hr : r < 9223372036854775808) :
    ((FloatKind.f64.format.order (Ieee.double.word n r) 4607182418800017408 == some .gt || FloatKind.f64.format.order (Ieee.double.word n r) 4607182418800017408 == some .eq) = false) ∨
    ((FloatKind.f64.format.order (Ieee.double.word n r) 4607182418800017408 == some .gt || FloatKind.f64.format.order (Ieee.double.word n r) 4607182418800017408 == some .eq) = true ∧
      ((FloatKind.f64.format.order (Ieee.double.word n r) 4845873199050653696 == some .lt) = false ∨
      ((FloatKind.f64.format.order (Ieee.double.word n r) 4845873199050653696 == some .lt) = true ∧ ∃ k : Nat, k < 9007199254740992 ∧ (∀ w, (convert 22 2 (.float .f64 (Ieee.double.word n r))).run Tryz.prog w = .ok (.int .i64 (k : Int)) w) ∧
        ((FloatKind.f64.format.order (floatOfInt .f64 (k : Int)) (Ieee.double.word n r) != some .eq) = true ∨
        ((FloatKind.f64.format.order (floatOfInt .f64 (k : Int)) (Ieee.double.word n r) != some .eq) = false ∧ marT n r = Lib.itoa (k : Int)))))) := by
  by_cases h0 : 9218868437227405312 < r
  · left
    rw [(ord_nan n r _ h0 hr .gt).1, (ord_nan n r _ h0 hr .eq).1]
    rfl
  have hi : r ≤ 9218868437227405312 := by omega
  have g := ord_geL n r 4607182418800017408 hi (by omega) (by omega)
  by_cases h1 : n = false ∧ 4607182418800017408 ≤ r
  · right
    rw [decide_eq_true h1] at g
    obtain ⟨rfl, h1⟩ := h1
    have l := (ord_pair false false r 4845873199050653696 hi (by omega)).1
    rw [word_false 4845873199050653696] at l
    refine ⟨g, ?_⟩
    by_cases h2 : r < 4845873199050653696
    · right
      rw [decide_eq_true (by simp only [sv_false]; omega)] at l
      have hrf : r < Ieee.double.infRung := by rw [d_inf]; omega
      have hw := whole_53 h2
      have hw0 : 0 < whole r := by
        unfold whole
        refine Nat.div_pos ?_ U_pos
        have e1 := val_one
        rcases Nat.lt_or_eq_of_le h1 with h | h
        · have := val_mono h; omega
        · rw [← h]; omega
      have hcv := run_cv64L false r hrf (by omega)
      simp only [Bool.false_eq_true, if_false] at hcv
      refine ⟨l, whole r, hw, hcv, ?_⟩
      obtain ⟨u, hu1, hu2, hu3⟩ := fi_smallL (whole r) (by omega) hw0
      have hue := (ord_pair false false u r (by rw [d_inf] at hu1; omega) hi).2.2
      rw [← hu2] at hue
      rw [bne, hue]
      by_cases hur : u = r
      · subst hur
        right
        refine ⟨by rw [decide_eq_true rfl]; rfl, ?_⟩
        have := marT_whole false u hw0 h2 hu3
        simpa using this
      · left
        rw [decide_eq_false (by simp only [sv_false]; omega)]
        rfl
    · left
      rw [l]
      exact decide_eq_false (by simp only [sv_false]; omega)
  · left
    rw [decide_eq_false h1] at g
    exact g
set_option maxRecDepth 100000 in
set_option maxHeartbeats 3200000 in
theorem lawRepM (s : ByteArray) (hm : s.size ≤ 9223372036854775807) (x : Nat) (hx : x < 18446744073709551616) (w : World) (hP : P10 w.heap.size w) (hT : Tab w.heap.size w) (hU : U8 w.heap.size w) : Calls Tryz.prog 4 #[.string s, .float .f64 x] w (LawPostR w) := by
  obtain ⟨n, r, rfl, hr⟩ := word_split x hx
  by_cases hs : s.size ≤ 1048576
  · have HB := Lib.hid (bytesRM_yes s (Ieee.double.word n r) hs)
    have HA := Lib.hid (plainA s hs)
    by_cases hz : s.size = 0
    · have hz2 : (s.size : Int) = 0 := by omega
      clear hP hT hU hr
      go_enter Tryz.func4, Tryz.ntmps4
      go_wp2_with (go_at_call 11; refine (HB.out _).mono ?_; rintro e w' ⟨rfl, rfl⟩)
      go_ret
      exact ⟨rfl, Below.refl _ _⟩
    · have hz2 : ((s.size : Int) == 0) = false := by rw [beq_eq_false_iff_ne]; omega
      have hpr := premise n r hr
      have HZ := Lib.hid (fun (q : Nat) => zz_rep s hs n r hr (w.drewN q) hP hT hU)
      have HPP := Lib.hid (pps_any s hs)
      have HNL := Lib.hid (marT_len n r)
      clear hP hT hU hr
      generalize Ieee.double.word n r = X at *
      generalize marT n r = N at *
      go_enter Tryz.func4, Tryz.ntmps4
      go_wp2_with (go_at_call 11; refine (HB.out _).mono ?_; rintro e w' ⟨rfl, rfl⟩)
      try go_at_call 12
      refine (HA.out _).mono ?_
      rintro e w1 ⟨b, rfl, hb, q, rfl⟩
      have HPl := Lib.hid hb
      clear hb
      cases b
      · go_wp2
        go_ret
        exact ⟨rfl, ⟨rfl, rfl, rfl, Nat.le_refl _, fun _ _ => rfl⟩⟩
      · rcases hpr with g1 | ⟨g1, g2 | ⟨g2, k, hk, hcv, g3 | ⟨g3, hN⟩⟩⟩
        · go_wp2
          go_ret
          exact ⟨rfl, ⟨rfl, rfl, rfl, Nat.le_refl _, fun _ _ => rfl⟩⟩
        · go_wp2
          go_ret
          exact ⟨rfl, ⟨rfl, rfl, rfl, Nat.le_refl _, fun _ _ => rfl⟩⟩
        · go_wp2
          go_ret
          exact ⟨rfl, ⟨rfl, rfl, rfl, Nat.le_refl _, fun _ _ => rfl⟩⟩
        · have HI := Lib.hid (fun w => zzItoa64_any (k : Int) (by omega) w)
          have HN := Lib.hid hN
          have HIl := Lib.hid (Lib.itoa_length_le (k : Int) (by omega) (by omega))
          clear hN
          go_wp2_with fail
          try go_at_call 9
          refine (HZ.out q).mono ?_
          rintro e w2 ⟨P, hp, rfl, hb2⟩
          have HP := Lib.hid (prev_plain s (HPl.out (by first | trivial | rfl)) P hp)
          have HBe := Lib.hid (show Below w.heap.size w w2 from (show Below w.heap.size w (w.drewN q) from ⟨rfl, rfl, rfl, Nat.le_refl _, fun _ _ => rfl⟩).trans hb2)
          have HE := Lib.hid (show repText P N = repA ++ ⟨(plainT s).toArray⟩ ++ repM ++ ⟨(Lib.itoa (k : Int)).toArray⟩ from by rw [HP.out, HN.out]; rfl)
          have hx1 : (⟨(plainT s).toArray⟩ : ByteArray).size ≤ 30 := plainT_len s
          have hx2 : (⟨(Lib.itoa (k : Int)).toArray⟩ : ByteArray).size ≤ 21 := HIl.out
          clear hp hb2 hcv g1 g2 g3
          generalize repText P N = R at *
          generalize (⟨(plainT s).toArray⟩ : ByteArray) = X1 at *
          generalize (⟨(Lib.itoa (k : Int)).toArray⟩ : ByteArray) = X2 at *
          go_wp2_with (first | (go_at_call 13; refine (HPP.out _).mono ?_; rintro e w' ⟨rfl, rfl⟩) | (go_at_call 14; refine (HI.out _).mono ?_; rintro e w3 ⟨rfl, hb3⟩))
          go_ret
          exact ⟨by rw [HE.out]; simp, HBe.out.trans (hb3.mono HBe.out.size)⟩
  · have HB := Lib.hid (bytesRM_no s (Ieee.double.word n r) (by omega) hm)
    clear hP hT hU
    go_enter Tryz.func4, Tryz.ntmps4
    go_wp2_with (go_at_call 11; refine (HB.out _).mono ?_; rintro e w' ⟨rfl, rfl⟩)
    go_ret
    exact ⟨rfl, Below.refl _ _⟩
end Go.Proofs.YtdkccihoecpcaaaGreatFmt
