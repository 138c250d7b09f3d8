/- The export's decoder of tokens, walked. Conditions: at most 1048576 tokens, well-formed from this place to the end of this array. -/
import Derived.Test.YtlhndkonhjjcgaaGreatDoorRow
namespace Go.Proofs.YtlhndkonhjjcgaaGreatDoor
open Go.RowKit Go
/-- The blocks made between two worlds. -/
def Rg (w w' : World) (g : Nat) : Prop := w.heap.size ≤ g ∧ g < w'.heap.size
/-- The same, without the row that is being built. -/
def Nst (w w' : World) (v : Value) (g : Nat) : Prop := w.heap.size ≤ g ∧ g < w'.heap.size ∧ some g ≠ v.ownBlock
/-- What the decoder leaves: the array's values, and the place behind it. -/
def DecPost (f : Fo) (j : Nat) (w : World) (e : Ending) (w' : World) : Prop := ∃ ao us c, e = .returned (.tuple #[.slice ao us.length c, .int .i64 (j : Int)]) ∧ ArrIn (Rg w w') w' ao us ∧ Rep (Rg w w') w' f us ∧ Below w.heap.size w w'
/-- What stands behind an array: nothing, or its closing bracket. -/
def Tail (tail : List (Nat × Int)) : Prop := tail = [] ∨ ∃ t, tail = (2, 0) :: t
def step (tail : List (Nat × Int)) : Nat := if tail.isEmpty then 0 else 1
theorem norm_cases {t : Nat × Int} {a : Nat} {v : Int} (h : norm t = (a, v)) : (a = 1 → t.1 = 1) ∧ (a = 2 → t.1 = 2) ∧ (a = 0 → t.1 ≠ 1 ∧ t.1 ≠ 2 ∧ t.2 = v) := by
  unfold norm at h
  split at h
  · rename_i h1
    simp only [Prod.mk.injEq] at h
    exact ⟨fun _ => h1, fun e => by omega, fun e => by omega⟩
  · split at h
    · rename_i h1 h2
      simp only [Prod.mk.injEq] at h
      exact ⟨fun e => by omega, fun _ => h2, fun e => by omega⟩
    · rename_i h1 h2
      simp only [Prod.mk.injEq] at h
      exact ⟨fun e => by omega, fun e => by omega, fun _ => ⟨h1, h2, h.2⟩⟩
theorem drop_head {L : List (Nat × Int)} {i : Nat} {a : Nat × Int} {m : List (Nat × Int)} (h : (L.map norm).drop i = a :: m) : ∃ hi : i < L.length, norm (L[i]'hi) = a ∧ (L.map norm).drop (i + 1) = m := by
  have e : ((L.map norm).drop i)[0]? = some a := by rw [h]; rfl
  rw [List.getElem?_drop, Nat.add_zero, List.getElem?_map] at e
  cases hx : L[i]? with
  | none => rw [hx] at e; simp at e
  | some x =>
    obtain ⟨hi, hv⟩ := List.getElem?_eq_some_iff.1 hx
    rw [hx] at e
    simp at e
    refine ⟨hi, by rw [hv]; exact e, ?_⟩
    have e2 : (L.map norm).drop (i + 1) = ((L.map norm).drop i).drop 1 := by rw [List.drop_drop]
    rw [e2, h]; rfl
theorem drop_end {L : List (Nat × Int)} {i : Nat} (h : (L.map norm).drop i = []) (hi : i ≤ L.length) : i = L.length := by
  have := congrArg List.length h
  simp at this
  omega
theorem drop_len {L : List (Nat × Int)} {i : Nat} {a b : List (Nat × Int)} (h : (L.map norm).drop i = a ++ b) (hi : i ≤ L.length) : i + a.length ≤ L.length := by
  have := congrArg List.length h
  simp at this
  omega
theorem drop_skip {L : List (Nat × Int)} {i : Nat} {a b : List (Nat × Int)} (h : (L.map norm).drop i = a ++ b) : (L.map norm).drop (i + a.length) = b := by
  rw [← List.drop_drop, h, List.drop_left]
def Built (w : World) (xs : Value) (dn : Fo) (us : List Value) (wr : World) : Prop := OwnG 20 w.heap.size xs us wr ∧ Rep (Nst w wr xs) wr dn us ∧ Below w.heap.size w wr
theorem nst_grew {w wr w1 : World} {xs v1 : Value} (hg : Grew wr xs v1 w1) {f : Fo} {us : List Value} (h : Rep (Nst w wr xs) wr f us) : Rep (Nst w w1 v1) w1 f us := by
  refine (h.keep (w' := w1) fun g ⟨_, h2, h3⟩ => hg.block g h2 h3).up fun g ⟨h1, h2, h3⟩ => ⟨h1, Nat.lt_of_lt_of_le h2 hg.size, ?_⟩
  rcases hg.place with e | ⟨g', e, h4⟩
  · rw [e]; exact h3
  · rw [e]; intro e2; simp only [Option.some.injEq] at e2; omega
theorem nst_arr {w wr w1 : World} {xs v1 : Value} (hg : Grew wr xs v1 w1) {ao : Option Addr} {ks : List Value} (h : ArrIn (Nst w wr xs) wr ao ks) : ArrIn (Nst w w1 v1) w1 ao ks := by
  refine (h.keep (w' := w1) fun g ⟨_, h2, h3⟩ => hg.block g h2 h3).up fun g ⟨h1, h2, h3⟩ => ⟨h1, Nat.lt_of_lt_of_le h2 hg.size, ?_⟩
  rcases hg.place with e | ⟨g', e, h4⟩
  · rw [e]; exact h3
  · rw [e]; intro e2; simp only [Option.some.injEq] at e2; omega
theorem built_leaf {w wr w1 : World} {xs v1 : Value} {dn : Fo} {us : List Value} {v : Int} (h : Built w xs dn us wr) (ho : OwnG 20 w.heap.size v1 (us ++ [.iface 3 (.int .i64 v)]) w1) (hb : Below w.heap.size wr w1) (hg : Grew wr xs v1 w1) :
    Built w v1 (dn.app (.leaf v .nil)) (us ++ [.iface 3 (.int .i64 v)]) w1 :=
  ⟨ho, (nst_grew hg h.2.1).app ⟨[], rfl, rfl⟩, h.2.2.trans hb⟩
theorem built_node {w wr w1 w2 : World} {xs v2 : Value} {dn kd : Fo} {us ks : List Value} {kao : Option Addr} {kc : Nat} (h : Built w xs dn us wr) (ha : ArrIn (Rg wr w1) w1 kao ks) (hr : Rep (Rg wr w1) w1 kd ks) (hb1 : Below wr.heap.size wr w1)
    (ho : OwnG 20 w.heap.size v2 (us ++ [.iface 35 (.slice kao ks.length kc)]) w2) (hb : Below w.heap.size w1 w2) (hg : Grew w1 xs v2 w2) :
    Built w v2 (dn.app (.node kd .nil)) (us ++ [.iface 35 (.slice kao ks.length kc)]) w2 := by
  have hws : w.heap.size ≤ wr.heap.size := h.2.2.size
  have hS : ∀ g, Rg wr w1 g → Nst w w1 xs g := fun g ⟨h1, h2⟩ => ⟨by omega, h2, fun e => by have := (ownG_lt h.1 g e.symm).2; omega⟩
  have hN : ∀ g, Nst w wr xs g → Nst w w1 xs g := fun g ⟨h1, h2, h3⟩ => ⟨h1, Nat.lt_of_lt_of_le h2 hb1.size, h3⟩
  have hd : Rep (Nst w w1 xs) w1 dn us := (h.2.1.keep (w' := w1) fun g ⟨_, h2, _⟩ => hb1.block g h2).up hN
  exact ⟨ho, (nst_grew hg hd).app ⟨[], kao, ks, kc, rfl, nst_arr hg (ha.up hS), nst_grew hg (hr.up hS), rfl⟩, (h.2.2.trans (hb1.mono hws)).trans hb⟩
theorem built_own {w wr w1 : World} {xs : Value} {dn : Fo} {us : List Value} (h : Built w xs dn us wr) (hb1 : Below wr.heap.size wr w1) : OwnG 20 w.heap.size xs us w1 ∧ w.heap.size ≤ w1.heap.size :=
  ⟨ownG_below h.1 hb1, Nat.le_trans h.2.2.size hb1.size⟩
theorem built_done {w wr : World} {ao : Option Addr} {c n : Nat} {dn : Fo} {us : List Value} (h : Built w (.slice ao n c) dn us wr) : ArrIn (Rg w wr) wr ao us ∧ Rep (Rg w wr) wr dn us ∧ Below w.heap.size w wr :=
  ⟨ownG_arr h.1 (fun _ h1 h2 => ⟨h1, h2⟩), h.2.1.up (fun _ ⟨h1, h2, _⟩ => ⟨h1, h2⟩), h.2.2⟩
theorem built_start (w : World) : Built w (.slice (some ⟨w.heap.size, 0, none⟩) 0 0) .nil [] (w.alloc (.cells #[] 20)) :=
  ⟨World.ownsRow_lit w #[] 0 (Nat.le_refl _) (by decide) rfl, rfl, (Below.refl _ _).alloc (Nat.le_refl _) _⟩
/-- What a loop's round knows of the forest. -/
def Left (L : List (Nat × Int)) (f dn rs : Fo) (i k : Nat) (tail : List (Nat × Int)) : Prop := f = dn.app rs ∧ k = i + dn.size ∧ (L.map norm).drop k = rs.enc ++ tail
theorem left_leaf {L : List (Nat × Int)} {f dn r : Fo} {v : Int} {i k : Nat} {tail : List (Nat × Int)} (h : Left L f dn (.leaf v r) i k tail) : ∃ hk : k < L.length, (L[k]'hk).1 ≠ 1 ∧ (L[k]'hk).1 ≠ 2 ∧ (L[k]'hk).2 = v ∧ Left L f (dn.app (.leaf v .nil)) r i (k + 1) tail := by
  obtain ⟨h1, h2, h3⟩ := h
  obtain ⟨hk, hn, hd⟩ := drop_head (show (L.map norm).drop k = (0, v) :: (r.enc ++ tail) from h3)
  obtain ⟨n1, n2, n3⟩ := (norm_cases hn).2.2 rfl
  exact ⟨hk, n1, n2, n3, by rw [h1, Fo.app_app]; rfl, by rw [Fo.size_app, h2]; rfl, hd⟩
theorem left_node {L : List (Nat × Int)} {f dn kd r : Fo} {i k : Nat} {tail : List (Nat × Int)} (h : Left L f dn (.node kd r) i k tail) (hk0 : k ≤ L.length) : ∃ hk : k < L.length, (L[k]'hk).1 = 1 ∧ k + 1 ≤ L.length ∧ (L.map norm).drop (k + 1) = kd.enc ++ ((2, 0) :: (r.enc ++ tail)) ∧ k + kd.size + 2 ≤ L.length ∧ kd.size < f.size ∧ Left L f (dn.app (.node kd .nil)) r i (k + kd.size + 2) tail := by
  obtain ⟨h1, h2, h3⟩ := h
  have h4 : (L.map norm).drop k = (1, 0) :: (kd.enc ++ (2, 0) :: (r.enc ++ tail)) := by rw [h3]; simp [Fo.enc]
  obtain ⟨hk, hn, hd⟩ := drop_head h4
  have h5 : (L.map norm).drop k = ((1, 0) :: (kd.enc ++ [(2, 0)])) ++ (r.enc ++ tail) := by rw [h4]; simp
  have h6 := drop_len h5 hk0
  have h7 := drop_skip h5
  simp only [List.length_cons, List.length_append, List.length_nil, Fo.enc_len] at h6 h7
  have e : k + kd.size + 2 = k + (kd.size + (0 + 1) + 1) := by omega
  refine ⟨hk, (norm_cases hn).1 rfl, hk, hd, by omega, ?_, by rw [h1, Fo.app_app]; rfl, ?_, by rw [e]; exact h7⟩
  · rw [h1, Fo.size_app]; simp only [Fo.size]; omega
  · rw [Fo.size_app, h2]; simp only [Fo.size]; omega
theorem left_nil {L : List (Nat × Int)} {f dn : Fo} {i k : Nat} {tail : List (Nat × Int)} (h : Left L f dn .nil i k tail) : f = dn ∧ k = i + f.size ∧ (L.map norm).drop k = tail := by
  obtain ⟨h1, h2, h3⟩ := h
  rw [Fo.app_nil] at h1
  exact ⟨h1, by rw [h1]; exact h2, h3⟩
set_option maxRecDepth 100000 in
set_option maxHeartbeats 3200000 in
theorem dec_fuel (L : List (Nat × Int)) (hL : L.length ≤ 1048576) : ∀ (n : Nat) (f : Fo), f.size < n → ∀ (ta va : Option Addr) (c1 c2 i : Nat) (tail : List (Nat × Int)), i ≤ L.length → (L.map norm).drop i = f.enc ++ tail → Tail tail → ∀ w, Toks w ta va L →
    Calls Tryz.prog 14 #[.slice ta L.length c1, .slice va L.length c2, .int .i64 (i : Int)] w (DecPost f (i + f.size + step tail) w) := by
  intro n
  induction n with
  | zero => intro f h; omega
  | succ n ih =>
    intro f hf ta va c1 c2 i tail hi hd ht w hw
    have HT := Lib.hid hw
    have IH := Lib.hid ih
    have HD := Lib.hid hd
    have HTail := Lib.hid ht
    have HF := Lib.hid hf
    have HBs := Lib.hid (built_start w)
    clear hw ih hd ht hf
    obtain ⟨m, hm⟩ : ∃ m, L.length = m := ⟨_, rfl⟩
    have HM := Lib.hid hm
    rw [hm] at hL hi ⊢
    clear hm
    go_enter Tryz.func14, Tryz.ntmps14
    go_wp2
    go_loopw [2, 8] (fun ix xs wr => ∃ (k : Nat) (dn rs : Fo) (us : List Value), k ≤ m ∧ ix = .int .i64 (k : Int) ∧ Hid (Left L f dn rs i k tail) ∧ Hid (Built w xs dn us wr)) (fun ix _ _ => m - (intOf ix).toNat)
    case atStart => exact ⟨i, .nil, f, [], hi, rfl, Lib.hid ⟨rfl, rfl, HD.out⟩, HBs⟩
    case round =>
      obtain ⟨k, dn, rs, us, hk, rfl, HP, HO⟩ := hrel
      clear HBs HD
      have HLs := Lib.hid (show us.length + 1 ≤ 4294967296 from by
        have h1 := HO.out.2.1.len
        have h2 := HP.out.2.1
        omega)
      obtain ⟨ao, c, rfl⟩ := ownG_slice HO.out.1
      cases rs with
      | nil =>
        rcases HTail.out with h0 | ⟨tl, h0⟩
        · obtain ⟨e1, e2, e3⟩ := left_nil HP.out
          have hkm : k = m := by rw [← HM.out]; exact drop_end (by rw [e3, h0]) (by rw [HM.out]; exact hk)
          have HJ := Lib.hid (show i + f.size + step tail = k from by rw [e2, h0]; rfl)
          have HE := Lib.hid e1
          subst hkm
          clear e1 e2 e3 h0 HP
          go_wp2
          go_ret2
          exact ⟨ao, us, c, by rw [HJ.out]; rfl, by rw [HE.out]; exact built_done HO.out⟩
        · obtain ⟨e1, e2, e3⟩ := left_nil HP.out
          rw [h0] at e3
          obtain ⟨hkL, hn, _⟩ := drop_head e3
          have ht2 := (norm_cases hn).2.1 rfl
          have hlt : k < m := by rw [← HM.out]; exact hkL
          have HJ := Lib.hid (show ((i + f.size + step tail : Nat) : Int) = (k : Int) + 1 from by rw [e2, h0]; simp [step])
          have HE := Lib.hid e1
          obtain ⟨g, rfl, hc⟩ := (HT.out.below HO.out.2.2).tag k hkL
          rw [ht2] at hc
          clear e1 e2 e3 h0 HP hn ht2 hkL
          go_wp2
          go_ret2
          exact ⟨ao, us, c, by rw [HJ.out]; rfl, by rw [HE.out]; exact built_done HO.out⟩
      | leaf v r =>
        obtain ⟨hkL, n1, n2, n3, hl⟩ := left_leaf HP.out
        have HS := Lib.hid hl
        have hlt : k < m := by rw [← HM.out]; exact hkL
        obtain ⟨g, rfl, hc⟩ := (HT.out.below HO.out.2.2).tag k hkL
        obtain ⟨g2, rfl, hc2⟩ := (HT.out.below HO.out.2.2).val k hkL
        rw [n3] at hc2
        have t1 : (((L[k]'hkL).1 : Int) == 1) = false := by rw [beq_eq_false_iff_ne]; omega
        have t2 : (((L[k]'hkL).1 : Int) == 2) = false := by rw [beq_eq_false_iff_ne]; omega
        clear hl n3 n1 n2 HP
        generalize (L[k]'hkL).1 = t at hc t1 t2
        clear hkL
        go_wp2_with (at_builtin; refine app_gen 35 20 .nilIface 16 Tryz.underlying35 info_any rfl (Nat.le_refl 16) rfl _ _ rfl w.heap.size _ _ us (.iface 3 (.int .i64 v)) _ _ _ rfl ?cb1 rfl rfl rfl ?co1 ?cB1 ?cl1 ?_)
        case cb1 => first | rfl | simp
        case co1 => exact HO.out.1
        case cB1 => exact HO.out.2.2.size
        case cl1 => exact HLs.out
        intro v1 w1 ho hb hg
        have HX := Lib.hid (built_leaf HO.out ho hb hg)
        clear ho hb hg
        go_wp2
        go_roundw
        case rel => exact ⟨k + 1, _, r, _, by omega, by go_num, HS, HX⟩
        case measure => simp [intOf]; omega
      | node kd r =>
        obtain ⟨hkL, n1, n2, n3, n4, n5, hl⟩ := left_node HP.out (by rw [HM.out]; exact hk)
        have HS := Lib.hid hl
        have hlt : k < m := by rw [← HM.out]; exact hkL
        have hj : k + kd.size + 2 ≤ m := by rw [← HM.out]; exact n4
        have HC := Lib.hid (show ∀ W, Toks W ta va L → Calls Tryz.prog 14 #[.slice ta m c1, .slice va m c2, .int .i64 ((k : Int) + 1)] W (DecPost kd (k + kd.size + 2) W) from fun W hW => by
          have h := IH.out kd (by have := HF.out; omega) ta va c1 c2 (k + 1) _ n2 n3 (.inr ⟨_, rfl⟩) W hW
          rw [HM.out, show (((k + 1 : Nat)) : Int) = (k : Int) + 1 from by push_cast; rfl, show k + 1 + kd.size + step ((2, 0) :: (r.enc ++ tail)) = k + kd.size + 2 from by simp [step]; omega] at h
          exact h)
        have HTr := Lib.hid (HT.out.below HO.out.2.2)
        obtain ⟨g, hta, hc⟩ := HTr.out.tag k hkL
        rw [n1] at hc
        clear hl n1 n2 n3 n4 n5 HP IH HT HTail HF
        clear hkL
        subst hta
        go_wp2_with fail
        try go_at_call 14
        refine (HC.out _ HTr.out).mono ?_
        rintro e w1 ⟨kao, ks, kc, rfl, ka, kr, kb⟩
        have HKA := Lib.hid ka
        have HKR := Lib.hid kr
        have HKB := Lib.hid kb
        have HOw := Lib.hid (built_own HO.out kb)
        clear ka kr kb HC HTr hc
        go_wp2_with (at_builtin; refine app_gen 35 20 .nilIface 16 Tryz.underlying35 info_any rfl (Nat.le_refl 16) rfl _ _ rfl w.heap.size _ _ us (.iface 35 (.slice kao ks.length kc)) _ _ _ rfl ?cb2 rfl rfl rfl ?co2 ?cB2 ?cl2 ?_)
        case cb2 => first | rfl | simp
        case co2 => exact HOw.out.1
        case cB2 => exact HOw.out.2
        case cl2 => exact HLs.out
        intro v2 w2 ho hb hg
        have HX := Lib.hid (built_node HO.out HKA.out HKR.out HKB.out ho hb hg)
        clear ho hb hg HKA HKR HKB HOw
        go_wp2
        go_roundw
        case rel => exact ⟨k + kd.size + 2, _, r, _, hj, by go_num, HS, HX⟩
        case measure => simp [intOf]; omega
theorem dec_any (L : List (Nat × Int)) (hL : L.length ≤ 1048576) (f : Fo) (hf : L.map norm = f.enc) (ta va : Option Addr) (c1 c2 : Nat) (w : World) (hw : Toks w ta va L) :
    Calls Tryz.prog 14 #[.slice ta L.length c1, .slice va L.length c2, .int .i64 0] w (DecPost f f.size w) := by
  have h := dec_fuel L hL (f.size + 1) f (by omega) ta va c1 c2 0 [] (Nat.zero_le _) (by rw [List.drop_zero, List.append_nil, hf]) (.inl rfl) w hw
  simpa [step] using h
end Go.Proofs.YtlhndkonhjjcgaaGreatDoor
