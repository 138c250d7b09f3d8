/- encodeObject over a builder: walked. Conditions: at most 4096 keys; the tables lie as the row lists them. -/
import Derived.Test.YtdkccihoecpcaaaGreatFmtSortA
import Derived.Test.YtdkccihoecpcaaaGreatFmtEncStrS
import Derived.Outline
namespace Go.Proofs.YtdkccihoecpcaaaGreatFmt
open Go.RowKit Go.Maps Go.WideMaps Go
@[go_sem] theorem as_map_bool (v : Value) (w : World) : (Instr.typeAssert (.iface 58 v) 20 4 true).run Tryz.prog w = .ok (.tuple #[.bool false, .bool false]) w := by kernel_rfl
@[go_sem] theorem as_map_int (v : Value) (w : World) : (Instr.typeAssert (.iface 58 v) 20 3 true).run Tryz.prog w = .ok (.tuple #[.int .i64 0, .bool false]) w := by kernel_rfl
@[go_sem] theorem as_map_f64 (v : Value) (w : World) : (Instr.typeAssert (.iface 58 v) 20 22 true).run Tryz.prog w = .ok (.tuple #[.float .f64 0, .bool false]) w := by kernel_rfl
@[go_sem] theorem as_map_big (v : Value) (w : World) : (Instr.typeAssert (.iface 58 v) 20 84 true).run Tryz.prog w = .ok (.tuple #[.pointer none, .bool false]) w := by kernel_rfl
@[go_sem] theorem as_map_num (v : Value) (w : World) : (Instr.typeAssert (.iface 58 v) 20 86 true).run Tryz.prog w = .ok (.tuple #[.string ByteArray.empty, .bool false]) w := by kernel_rfl
@[go_sem] theorem as_map_str (v : Value) (w : World) : (Instr.typeAssert (.iface 58 v) 20 9 true).run Tryz.prog w = .ok (.tuple #[.string ByteArray.empty, .bool false]) w := by kernel_rfl
@[go_sem] theorem as_map_arr (v : Value) (w : World) : (Instr.typeAssert (.iface 58 v) 20 88 true).run Tryz.prog w = .ok (.tuple #[.slice none 0 0, .bool false]) w := by kernel_rfl
@[go_sem] theorem as_map_map (v : Value) (w : World) : (Instr.typeAssert (.iface 58 v) 20 58 true).run Tryz.prog w = .ok (.tuple #[v, .bool true]) w := by kernel_rfl
theorem map_fr {B b eb mb nm : Nat} {l : List UInt8} {D : DataW Unit} {w w' : World} (h : StS B b eb l w) (hown : w.ownsMap Tryz.prog 9 anyInt mb nm D) (hF : Fr B b eb w w') : w'.ownsMap Tryz.prog 9 anyInt mb nm D := by
  obtain ⟨es, clock, hb, F, hs, hD⟩ := hown
  obtain ⟨cs, hc⟩ := bld_headS h.bld
  obtain ⟨cur, he⟩ := h.enc
  refine ⟨es, clock, hF.oth mb _ hb (fun e => ?_) (fun e => ?_) (fun _ _ e => by cases e), F, hs, hD⟩
  · rw [e, hc] at hb; cases hb
  · rw [e, he.row] at hb; cases hb
theorem infoKV : (Tryz.prog.info? 109).map (fun i => (i.zero, i.size, i.bytes)) = some (some (.agg #[.string ByteArray.empty, .nilIface]), 2, 32) := by kernel_rfl
theorem make_kv (n : Nat) (hn : n ≤ 4096) (w : World) : (Instr.makeSlice 107 (.int .i64 (n : Int)) (.int .i64 (n : Int))).run Tryz.prog w = .ok (.slice (some ⟨w.heap.size, 0, none⟩) n n) (w.alloc (.cells (kvRow [] n) 109)) := by
  obtain ⟨i0, hi, hz0, hz1, hz2⟩ := info_parts infoKV
  rw [run_make w 107 109 i0 _ Tryz.underlying107 hi hz0 .i64 .i64 (n : Int) (n : Int) (by omega) (by omega) (by rw [hz2]; omega) (by omega)]
  rw [hz1, Int.toNat_natCast, ← kvRow_zero]
  rfl
theorem invK (key : Value) (kl : Lit) (h : keyOf Tryz.prog 9 key = some kl) : ∃ x, key = Value.string x := by
  cases key <;> simp [keyOf, Tryz.underlying9, mapKey] at h
  exact ⟨_, rfl⟩
theorem keyS (x : ByteArray) (kl : Lit) (h : keyOf Tryz.prog 9 (.string x) = some kl) : kl = kL x := by
  simp [keyOf, Tryz.underlying9, mapKey] at h
  exact h.2.symm
theorem invV (v : Value) (y : DataW Unit × List MemPlace) (h : anyInt v = some y) : ∃ c : Int, v = (fun a : Int => Value.iface 3 (.int .i64 a)) c := by
  obtain ⟨a, rfl, _⟩ := anyInt_inv h
  exact ⟨a, rfl⟩
/-- The pairs that are no longer to come. -/
def Gone (ks : List ByteArray) (n : Nat) (left : Lit → Bool) (L : List (ByteArray × Nat)) : Prop := Apart L ∧ ∀ x i, (x, i) ∈ L ↔ (LastAt ks n x i ∧ left (kL x) = false)
theorem gone_start (ks : List ByteArray) (n : Nat) : Gone ks n (Maps.has (Dm ks n)) [] := by
  refine ⟨List.Pairwise.nil, fun x i => ⟨fun h => by simp at h, fun ⟨h, h2⟩ => ?_⟩⟩
  rw [(has_Dm ks n x).2 ⟨i, h⟩] at h2
  cases h2
theorem gone_step {ks : List ByteArray} {n : Nat} {left : Lit → Bool} {L : List (ByteArray × Nat)} (h : Gone ks n left L) {x : ByteArray} {i : Nat} (hl : left (kL x) = true) (hx : LastAt ks n x i) :
    Gone ks n (fun z => left z && !z.sameKey (kL x)) (L ++ [(x, i)]) := by
  obtain ⟨h1, h2⟩ := h
  refine ⟨?_, fun y j => ?_⟩
  · unfold Apart
    rw [List.pairwise_append]
    refine ⟨h1, List.pairwise_singleton _ _, fun a ha q hq => ?_⟩
    rw [List.mem_singleton] at hq
    subst hq
    intro e
    obtain ⟨ax, ai⟩ := a
    simp only at e
    subst e
    have := ((h2 _ _).1 ha).2
    rw [hl] at this
    cases this
  · rw [List.mem_append, List.mem_singleton, Prod.mk.injEq, h2 y j]
    show _ ↔ LastAt ks n y j ∧ (left (kL y) && !(kL y).sameKey (kL x)) = false
    by_cases e : y = x
    · subst e
      rw [WideAt.sameKey_self (kL_key y)]
      constructor
      · rintro (⟨_, h⟩ | ⟨_, rfl⟩)
        · rw [hl] at h; cases h
        · exact ⟨hx, by simp⟩
      · rintro ⟨hy, _⟩
        exact Or.inr ⟨rfl, lastAt_unique hy hx⟩
    · have hs : (kL y).sameKey (kL x) = false := sameKey_ne (fun h => e (kL_inj h))
      rw [hs]
      simp [e]
theorem gone_end {ks : List ByteArray} {n : Nat} {left : Lit → Bool} {L : List (ByteArray × Nat)} (h : Gone ks n left L) (hl : ∀ kl, left kl = false) : Apart L ∧ ∀ x i, (x, i) ∈ L ↔ LastAt ks n x i :=
  ⟨h.1, fun x i => by rw [h.2 x i]; exact ⟨fun h => h.1, fun h => ⟨h, hl _⟩⟩⟩
/-- What has come, as the map reads it, is the key's last place. -/
theorem last_of_at {ks : List ByteArray} {n : Nat} {x : ByteArray} {c : Int} (hh : Maps.has (Dm ks n) (kL x) = true) (hat : ∀ zd, (Dm ks n).atKey (kL x) zd = .lit (.int .i64 c)) : ∃ i : Nat, c = (i : Int) ∧ LastAt ks n x i := by
  obtain ⟨i, hi⟩ := (has_Dm ks n x).1 hh
  have := at_Dm ks .nil n x i hi
  rw [hat .nil] at this
  simp only [DataW.lit.injEq, Lit.int.injEq, true_and] at this
  exact ⟨i, this, hi⟩
theorem rng_iter {w : World} {b r n : Nat} {D : DataW Unit} {left : Lit → Bool} {cnt : Nat} (h : w.ranges Tryz.prog 9 anyInt b r n D left cnt) : ∀ c t fz, w.heap[r]? ≠ some (.cells c t fz) := by
  obtain ⟨es, clock, since, seen, c0, _, _, _, _, hr, _⟩ := h
  intro c t fz e
  rw [hr] at e
  cases e
theorem tidy_Dm (ks : List ByteArray) : ∀ k, Maps.Tidy (Dm ks k)
  | 0 => Maps.tidy_empty
  | k + 1 => (tidy_Dm ks k).put (kL_key _) _
theorem size_Dm (ks : List ByteArray) : ∀ k, Maps.size (Dm ks k) = (uq ks k).length
  | 0 => rfl
  | k + 1 => by
    unfold Dm uq
    rw [Maps.size_put (tidy_Dm ks k), size_Dm ks k]
    unfold upd
    have hh := has_Dm ks k (ks.getD k ByteArray.empty)
    by_cases h : ∃ p ∈ uq ks k, p.1 = ks.getD k ByteArray.empty
    · rw [if_pos h, List.length_map, if_pos]
      obtain ⟨⟨x, i⟩, hp, he⟩ := h
      simp only at he
      subst he
      exact hh.2 ⟨i, (mem_uq ks k _ i).1 hp⟩
    · rw [if_neg h, List.length_append, List.length_singleton, if_neg]
      intro h2
      obtain ⟨i, hi⟩ := hh.1 h2
      exact h ⟨(_, i), (mem_uq ks k _ i).2 hi, rfl⟩
theorem nodup_of_apart {L : List (ByteArray × Nat)} (h : Apart L) : L.Nodup := h.imp (fun h e => h (by rw [e]))
theorem perm_uq {ks : List ByteArray} {n : Nat} {L : List (ByteArray × Nat)} (h : Apart L) (hm : ∀ x i, (x, i) ∈ L ↔ LastAt ks n x i) : L.Perm (uq ks n) :=
  (List.perm_ext_iff_of_nodup (nodup_of_apart h) (nodup_of_apart (apart_uq ks n))).2 fun ⟨x, i⟩ => by rw [hm x i, mem_uq]
theorem gone_len {ks : List ByteArray} {n : Nat} {L : List (ByteArray × Nat)} (h : Apart L) (hm : ∀ x i, (x, i) ∈ L ↔ LastAt ks n x i) : L.length = Maps.size (Dm ks n) := by
  rw [size_Dm, (perm_uq h hm).length_eq]
/-- A round of the last loop: the pair p lies in the loop's own variable K. -/
structure It (B b eb R K N : Nat) (S : List (ByteArray × Nat)) (p : ByteArray × Nat) (w0 : World) (out : List UInt8) (w : World) : Prop where
  row : w.heap[R]? = some (.cells (kvRow S N) 109 (0, 0))
  var : w.heap[K]? = some (.cells #[.string p.1, .iface 3 (.int .i64 (p.2 : Int))] 109 (0, 0))
  st : StS B b eb out w
  fr : Fr B b eb w0 w
  b0 : b < w0.heap.size
  e0 : eb < w0.heap.size
  gR : w0.heap.size ≤ R
  gK : w0.heap.size ≤ K
theorem kvTag (cs c : Array Value) (fz : Nat × Nat) : Obj.cells cs 109 (0, 0) ≠ .cells c 5 fz := by
  intro e
  simp only [Obj.cells.injEq] at e
  exact absurd e.2.1 (by decide)
theorem It.next {B b eb R K N : Nat} {S : List (ByteArray × Nat)} {p : ByteArray × Nat} {w0 : World} {out out' : List UInt8} {w w' : World} (h : It B b eb R K N S p w0 out w) (hS : StS B b eb out' w') (hF : Fr B b eb w w') : It B b eb R K N S p w0 out' w' := by
  have h0 := h.b0
  have h1 := h.e0
  have h2 := h.gR
  have h3 := h.gK
  exact ⟨hF.oth R _ h.row (by omega) (by omega) (fun c fz => kvTag _ c fz), hF.oth K _ h.var (by omega) (by omega) (fun c fz => kvTag _ c fz), hS, h.fr.trans hF, h0, h1, h2, h3⟩
theorem It.k0 {B b eb R K N : Nat} {S : List (ByteArray × Nat)} {p : ByteArray × Nat} {w0 : World} {out : List UInt8} {w : World} (h : It B b eb R K N S p w0 out w) : w.cell? ⟨K, 0, none⟩ = some (.string p.1) := by simp [World.cell?, h.var]
theorem It.k1 {B b eb R K N : Nat} {S : List (ByteArray × Nat)} {p : ByteArray × Nat} {w0 : World} {out : List UInt8} {w : World} (h : It B b eb R K N S p w0 out w) : w.cell? ⟨K, 1, none⟩ = some (.iface 3 (.int .i64 (p.2 : Int))) := by simp [World.cell?, h.var]
set_option maxRecDepth 100000 in
set_option maxHeartbeats 12800000 in
theorem encObj {B b eb : Nat} {l : List UInt8} {w : World} (h : StS B b eb l w) (mb nm n : Nat) (ks : List ByteArray) (hown : w.ownsMap Tryz.prog 9 anyInt mb nm (Dm ks n)) (N : Nat) (hN : Maps.size (Dm ks n) = N) (hN2 : N ≤ 4096) (hl : l.length ≤ 1000) (hn4 : n ≤ 4096) (hks : ∀ i, (ks.getD i ByteArray.empty).size ≤ 1048576) (hU : U8 B w) (htab : Tab B w) :
    Calls Tryz.prog 47 #[.pointer (some ⟨eb, 0, none⟩), .map (some mb)] w (fun e w' => ∃ S, Rising S ∧ (∀ x i, (x, i) ∈ S ↔ LastAt ks n x i) ∧ WrS B b eb (l ++ objT S) (.tuple #[]) w e w') := by
  have c0 := h.c0
  have H1 := Lib.hid (wbS h 123 (by omega))
  have HM := Lib.hid (fun (w' : World) (hF : Fr B b eb w w') => map_fr h hown hF)
  have hmk := make_kv N hN2
  have hb0 : b < w.heap.size := by obtain ⟨cs, hc⟩ := bld_headS h.bld; exact Lib.lt_of_heap hc
  have he0 : eb < w.heap.size := by obtain ⟨cur, he⟩ := h.enc; exact Lib.lt_of_heap he.row
  have hBw := h.lew
  have hmb : mb < w.heap.size := hown.lt
  have HN := Lib.hid hN
  have HU := Lib.hid (And.intro hU htab)
  clear h hown hN hU htab
  go_enter Tryz.func47, Tryz.ntmps47
  go_wp2_with (first
    | (go_at_call 283; refine H1.out.mono ?_; rintro e w1 ⟨rfl, hS, hF⟩; have HS := Lib.hid (And.intro hS hF); have HM1 := Lib.hid (HM.out _ hF); clear hS hF)
    | (at_len; refine wpList_len_own _ rfl _ 58 rfl 9 20 Tryz.underlying58 anyInt mb nm (Dm ks n) rfl HM1.out ?_; rw [HN.out])
    | (at_range; refine wpList_range_own _ rfl _ 58 rfl 9 20 lawK Tryz.underlying58 anyInt mb nm (Dm ks n) rfl ((HM1.out.alloc _).alloc _) ?_; intro w2 hrg0 hg0 hs0))
  go_frame
  obtain ⟨R, hR⟩ : ∃ R, R = w1.heap.size := ⟨_, rfl⟩
  have hge : w.heap.size ≤ R := by rw [hR]; exact HS.out.2.below.size
  have e2 : ((w1.alloc (.cells (kvRow [] N) 109)).alloc (.cells #[.slice (some ⟨w1.heap.size, 0, none⟩) N N] 107)).heap.size = w1.heap.size + 2 := by simp
  rw [e2] at hrg0 hs0 ⊢
  have ht0 := touch_of_grown0 hg0
  have HK := Lib.hid (show Kv B b eb R N (l ++ [123]) w [] w2 from by
    have g1 : Below w1.heap.size w1 ((w1.alloc (.cells (kvRow [] N) 109)).alloc (.cells #[.slice (some ⟨w1.heap.size, 0, none⟩) N N] 107)) := ((Below.refl _ _).alloc (Nat.le_refl _) _).alloc (by simp) _
    have g2 : Below w1.heap.size w1 w2 := g1.trans (ht0.below (by simp) (by simp; omega))
    obtain ⟨s1, f1⟩ := HS.out.1.grown g2
    refine ⟨?_, ?_, s1, HS.out.2.trans f1, hb0, he0, hge, Nat.le_trans hBw hge⟩
    · rw [hR, ht0.block _ (by simp; omega) (by simp), Below.heap_alloc _ _ _ (by simp)]
      exact heap_alloc_new _ _
    · rw [hR, ht0.block _ (by simp) (by simp)]
      have := heap_alloc_new (w1.alloc (.cells (kvRow [] N) 109)) (.cells #[.slice (some ⟨w1.heap.size, 0, none⟩) N N] 107)
      rw [show (w1.alloc (.cells (kvRow [] N) 109)).heap.size = w1.heap.size + 1 from by simp] at this
      exact this)
  rw [← hR] at hrg0 hs0 ⊢
  have HRG := Lib.hid hrg0
  clear hrg0 hg0 hs0 ht0 e2 HS HM1 HM H1 hR
  go_loopw [5] (fun i wr => ∃ (left : Lit → Bool) (cnt : Nat) (L : List (ByteArray × Nat)), L.length + cnt ≤ N ∧ i = .int .i64 (L.length : Int) ∧ Hid (wr.ranges Tryz.prog 9 anyInt mb (R + 2) nm (Dm ks n) left cnt ∧ Gone ks n left L) ∧ Hid (Kv B b eb R N (l ++ [123]) w L wr)) (fun _ wr => wr.rangeLeft mb (R + 2))
  case atStart => exact ⟨_, _, [], by rw [HN.out]; simp, rfl, Lib.hid ⟨HRG.out, gone_start ks n⟩, HK⟩
  case round =>
    clear HRG HK
    obtain ⟨left, cnt, L, hcnt, rfl, HRG, HK⟩ := hrel
    have hmf : ∀ (fn : Fn) (first cap : Array Value) (w : World), (Instr.makeFunc fn first cap).run Tryz.prog w = .ok (.func fn first cap) w := fun _ _ _ _ => rfl
    have hbox : wr.cell? ⟨R + 1, 0, none⟩ = some (.slice (some ⟨R, 0, none⟩) N N) := by simp [World.cell?, HK.out.box]
    have HI := Lib.hid (rng_iter HRG.out.1)
    go_wp2_with (at_next; refine wpList_next_ranges _ rfl _ rfl 9 lawK anyInt Value.string (fun a : Int => Value.iface 3 (.int .i64 a)) invK invV mb (R + 2) nm (Dm ks n) _ _ rfl HRG.out.1 ?_ ?_)
    · intro hc0 hl0
      subst hc0
      have HG := Lib.hid (gone_end HRG.out.2 hl0)
      have hLN : L.length = N := by rw [← HN.out]; exact gone_len HG.out.1 HG.out.2
      have hrow2 := HK.out.row
      have HSrt := Lib.hid (sort_any R N (R + 1) L hLN HG.out.1 hN2 wr HK.out.row hbox (Lib.lt_of_heap HK.out.box) (by omega))
      clear hrow2
      go_wp2_with fail
      try go_at_call 58
      refine HSrt.out.mono ?_
      rintro e w4 ⟨rfl, S, hperm, hris, hrow4, ht4⟩
      have HK4 := Lib.hid (HK.out.put ht4 hrow4)
      have HP := Lib.hid (And.intro hperm hris)
      have hsm : Small S := fun p hp => by
        obtain ⟨x, i⟩ := p
        obtain ⟨h1, h2, _⟩ := (HG.out.2 x i).1 (hperm.mem_iff.1 hp)
        exact ⟨by rw [← h2]; exact hks _, by omega⟩
      have hbox4 : w4.cell? ⟨R + 1, 0, none⟩ = some (.slice (some ⟨R, 0, none⟩) N N) := by simp [World.cell?, HK4.out.box]
      clear hrow4 ht4 hperm hris
      go_wp2
      go_loopw [39] (fun ix wx => ∃ j : Nat, j ≤ N ∧ ix = .int .i64 (j : Int) ∧ Hid (wx.heap[R]? = some (.cells (kvRow S N) 109 (0, 0)) ∧ StS B b eb (l ++ [123] ++ objP S j) wx ∧ Fr B b eb w wx)) (fun ix _ => N - (intOf ix).toNat)
      case atStart => exact ⟨0, Nat.zero_le _, rfl, Lib.hid ⟨HK4.out.row, by simpa [objP] using HK4.out.st, HK4.out.fr⟩⟩
      case round =>
        clear HK4 hbox4
        obtain ⟨j, hj, rfl, HF⟩ := hrel
        by_cases hlt : j < N
        · have hlS : S.length = N := by rw [← hLN]; exact HP.out.1.length_eq
          have r0 : wr.cell? ⟨R, j * 2, none⟩ = some (.string (nth S j).1) := by
            rw [Lib.cell_of_heap HF.out.1, kvRow_get _ _ _ (by omega)]
            unfold kvAt
            rw [if_pos (by omega), if_pos (by omega), show j * 2 / 2 = j from by omega]
          have r1 : wr.cell? ⟨R, j * 2 + 1, none⟩ = some (.iface 3 (.int .i64 ((nth S j).2 : Int))) := by
            rw [Lib.cell_of_heap HF.out.1, kvRow_get _ _ _ (by omega)]
            unfold kvAt
            rw [if_pos (by omega), if_neg (by omega), show (j * 2 + 1) / 2 = j from by omega]
          have hq := hsm _ (show nth S j ∈ S from nth_mem (by omega))
          have hol := objP_len S hsm j (by omega)
          have HIt0 := Lib.hid (show It B b eb R wr.heap.size N S (nth S j) w (l ++ [123] ++ objP S j) (wr.alloc (.cells #[.string (nth S j).1, .iface 3 (.int .i64 ((nth S j).2 : Int))] 109)) from by
            obtain ⟨s1, f1⟩ := HF.out.2.1.grown ((Below.refl _ _).alloc (Nat.le_refl _) (.cells #[.string (nth S j).1, .iface 3 (.int .i64 ((nth S j).2 : Int))] 109))
            exact ⟨by rw [Below.heap_alloc _ _ _ (Lib.lt_of_heap HF.out.1)]; exact HF.out.1, heap_alloc_new _ _, s1, HF.out.2.2.trans f1, hb0, he0, hge, HF.out.2.2.below.size⟩)
          have c0 := HIt0.out.st.c0
          generalize hout : l ++ [123] ++ objP S j = out at HIt0
          have ho : out.length ≤ 30000000000 := by
            rw [← hout]
            simp only [List.length_append, List.length_singleton]
            omega
          have hql := quo_len (nth S j).1
          have hqi : ((nth S j).2 : Int) ≤ 4096 := by omega
          by_cases hj0 : j = 0
          · have HIt := HIt0
            have k0 := HIt.out.k0
            subst hj0
            clear HIt0
            go_wp2_with (first
              | (go_at_call 283; refine (wbS HIt0.out.st 44 (by omega)).mono ?_; rintro e w5 ⟨rfl, hS, hF⟩; have HIt := Lib.hid (HIt0.out.next hS hF); clear hS hF HIt0; have c0 := HIt.out.st.c0; have k0 := HIt.out.k0)
              | (go_at_call 45; refine (encStrS HIt.out.st _ hq.1 (by first | omega | (rw [List.length_append, List.length_singleton]; omega)) (u8_below HU.out.1 HIt.out.fr.below)).mono ?_; rintro e w6 ⟨rfl, hS, hF⟩; have HIu := Lib.hid (HIt.out.next hS hF); clear hS hF HIt; have c0 := HIu.out.st.c0)
              | (go_at_call 283; refine (wbS HIu.out.st 58 (by first | omega | (simp only [List.length_append]; omega) | (simp only [List.length_append, List.length_singleton]; omega))).mono ?_; rintro e w7 ⟨rfl, hS, hF⟩; have HIv := Lib.hid (HIu.out.next hS hF); clear hS hF HIu; have k1 := HIv.out.k1)
              | (go_at_call 33; refine (encS_int HIv.out.st _ ⟨by omega, by omega⟩ (tab_below HU.out.2 HIv.out.fr.below) (by first | omega | (simp only [List.length_append]; omega) | (simp only [List.length_append, List.length_singleton]; omega))).mono ?_; rintro e w8 ⟨rfl, hS, hF⟩; have HIw := Lib.hid (HIv.out.next hS hF); clear hS hF HIv))
            refine ⟨⟨1, by omega, rfl, Lib.hid ⟨HIw.out.row, ?_, HIw.out.fr⟩⟩, ?_⟩
            · have := HIw.out.st
              rw [← hout] at this
              simpa [objP, kvT] using this
            · show N - 1 < N - 0
              omega
          · go_wp2_with (first
              | (go_at_call 283; refine (wbS HIt0.out.st 44 (by omega)).mono ?_; rintro e w5 ⟨rfl, hS, hF⟩; have HIt := Lib.hid (HIt0.out.next hS hF); clear hS hF HIt0; have c0 := HIt.out.st.c0; have k0 := HIt.out.k0)
              | (go_at_call 45; refine (encStrS HIt.out.st _ hq.1 (by first | omega | (rw [List.length_append, List.length_singleton]; omega)) (u8_below HU.out.1 HIt.out.fr.below)).mono ?_; rintro e w6 ⟨rfl, hS, hF⟩; have HIu := Lib.hid (HIt.out.next hS hF); clear hS hF HIt; have c0 := HIu.out.st.c0)
              | (go_at_call 283; refine (wbS HIu.out.st 58 (by first | omega | (simp only [List.length_append]; omega) | (simp only [List.length_append, List.length_singleton]; omega))).mono ?_; rintro e w7 ⟨rfl, hS, hF⟩; have HIv := Lib.hid (HIu.out.next hS hF); clear hS hF HIu; have k1 := HIv.out.k1)
              | (go_at_call 33; refine (encS_int HIv.out.st _ ⟨by omega, by omega⟩ (tab_below HU.out.2 HIv.out.fr.below) (by first | omega | (simp only [List.length_append]; omega) | (simp only [List.length_append, List.length_singleton]; omega))).mono ?_; rintro e w8 ⟨rfl, hS, hF⟩; have HIw := Lib.hid (HIv.out.next hS hF); clear hS hF HIv))
            refine ⟨⟨j + 1, by omega, rfl, Lib.hid ⟨HIw.out.row, ?_, HIw.out.fr⟩⟩, ?_⟩
            · have := HIw.out.st
              rw [← hout] at this
              unfold objP kvT
              rw [if_neg hj0]
              simpa using this
            · show N - (j + 1) < N - j
              omega
        · have c0 := HF.out.2.1.c0
          have hjN : j = N := by omega
          have hol := objP_len S hsm j (by have := HP.out.1.length_eq; omega)
          go_wp2_with (go_at_call 283; refine (wbS HF.out.2.1 125 (by simp only [List.length_append, List.length_singleton]; omega)).mono ?_)
          rintro e w9 ⟨rfl, hS, hF⟩
          go_wp2
          go_end0
          refine ⟨S, HP.out.2, fun x i => (HP.out.1.mem_iff).trans (HG.out.2 x i), rfl, ?_, HF.out.2.2.trans hF⟩
          have hl2 : S.length = j := by have := HP.out.1.length_eq; omega
          unfold objT
          rw [hl2]
          simpa using hS
    · intro x c kl yd yp w3 cnt3 hkey hlx hy hat hrg3 hlt3 hg3 hs3 hen
      have hkl := keyS x kl hkey
      subst hkl
      have HK3 := Lib.hid (HK.out.iter (touch_of_grown hg3) (Nat.lt_succ_self _) HI.out)
      have hi : L.length < N := by omega
      obtain ⟨i, hil⟩ : ∃ i, i = L.length := ⟨_, rfl⟩
      have hbox3 : w3.cell? ⟨R + 1, 0, none⟩ = some (.slice (some ⟨R, 0, none⟩) N N) := by simp [World.cell?, HK3.out.box]
      have r0 : w3.cell? ⟨R, i * 2, none⟩ = some (kvAt L (i * 2)) := by rw [Lib.cell_of_heap HK3.out.row, kvRow_get _ _ _ (by omega)]
      have r1 : w3.cell? ⟨R, i * 2 + 1, none⟩ = some (kvAt L (i * 2 + 1)) := by rw [Lib.cell_of_heap HK3.out.row, kvRow_get _ _ _ (by omega)]
      have f0 : w3.frozen? ⟨R, i * 2, none⟩ = false := by simp [World.frozen?, HK3.out.row]
      have f1 : w3.frozen? ⟨R, i * 2 + 1, none⟩ = false := by simp [World.frozen?, HK3.out.row]
      generalize kvAt L (i * 2) = v0 at r0
      generalize kvAt L (i * 2 + 1) = v1 at r1
      have HIL := Lib.hid hil
      rw [← hil] at hi ⊢
      have hyd : yd = .lit (.int .i64 c) := by
        rw [anyInt_mk] at hy
        simp only [Option.some.injEq, Prod.mk.injEq] at hy
        exact hy.1.symm
      subst hyd
      obtain ⟨q, hcq, hlast⟩ := last_of_at (Maps.has_true_of_atKey hat) hat
      subst hcq
      have HX := Lib.hid (And.intro hrg3 (gone_step HRG.out.2 hlx hlast))
      have HLe := Lib.hid (show wr.rangeLeft mb (R + 2) = cnt from HRG.out.1.left_eq)
      clear hil hbox hy hat hlast hrg3 hlx hkey
      go_wp2
      have g1 := Lib.grownBy_setCell w3 R (i * 2) (.string x)
      have g2 := Lib.grownBy_setCell (w3.setCell ⟨R, i * 2, none⟩ (.string x)) R (i * 2 + 1) (.iface 3 (.int .i64 (q : Int)))
      have hrg5 := (HX.out.1.kept g1 (by simp; omega) (by simp)).kept g2 (by simp; omega) (by simp)
      have hrow5 : ((w3.setCell ⟨R, i * 2, none⟩ (.string x)).setCell ⟨R, i * 2 + 1, none⟩ (.iface 3 (.int .i64 (q : Int)))).heap[R]? = some (.cells (kvRow (L ++ [(x, q)]) N) 109 (0, 0)) := by
        rw [Lib.heap_setCell_same (i := i * 2 + 1) (Lib.heap_setCell_same (i := i * 2) HK3.out.row _), kvRow_set L (x, q) N i HIL.out hi]
      have HK5 := Lib.hid (HK3.out.put (((Touch.refl [R] w3).setCell ⟨R, i * 2, none⟩ (.inl (by simp)) (.string x)).setCell ⟨R, i * 2 + 1, none⟩ (.inl (by simp)) (.iface 3 (.int .i64 (q : Int)))) hrow5)
      refine ⟨⟨_, cnt3, L ++ [(x, q)], ?_, ?_, Lib.hid ⟨hrg5, HX.out.2⟩, HK5⟩, ?_⟩
      · rw [List.length_append, List.length_singleton]
        omega
      · rw [List.length_append, List.length_singleton, ← HIL.out]
        push_cast
        rfl
      · rw [hrg5.left_eq, HLe.out]
        exact hlt3
set_option maxRecDepth 100000 in
set_option maxHeartbeats 1600000 in
theorem encS_map {B b eb : Nat} {w : World} (h : StS B b eb [] w) (mb nm n : Nat) (ks : List ByteArray) (hown : w.ownsMap Tryz.prog 9 anyInt mb nm (Dm ks n)) (hn4 : n ≤ 4096) (hks : ∀ i, (ks.getD i ByteArray.empty).size ≤ 1048576) (hU : U8 B w) (htab : Tab B w) :
    Calls Tryz.prog 33 #[.pointer (some ⟨eb, 0, none⟩), .iface 58 (.map (some mb))] w (fun e w' => ∃ S, Rising S ∧ (∀ x i, (x, i) ∈ S ↔ LastAt ks n x i) ∧ WrS B b eb (objT S) (.tuple #[]) w e w') := by
  have hsz : Maps.size (Dm ks n) ≤ 4096 := by
    rw [size_Dm]
    exact Nat.le_trans (uq_len ks n) hn4
  have HE := Lib.hid (encObj h mb nm n ks hown _ rfl hsz (by simp) hn4 hks hU htab)
  clear h hown hU htab
  go_enter Tryz.func33, Tryz.ntmps33
  go_wp2_with (go_at_call 47; refine HE.out.mono ?_; rintro e w' ⟨S, hr, hm, rfl, hS, hF⟩)
  go_end0
  exact ⟨S, hr, hm, rfl, hS, hF⟩
end Go.Proofs.YtdkccihoecpcaaaGreatFmt
