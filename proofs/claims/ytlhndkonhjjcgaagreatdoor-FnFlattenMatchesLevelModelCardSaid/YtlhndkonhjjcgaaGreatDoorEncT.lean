/- The export's encoder of tokens, walked. Conditions: at most 1048576 tokens in all. -/
import Derived.Test.YtlhndkonhjjcgaaGreatDoorRow
import Derived.Test.YtlhndkonhjjcgaaGreatDoorFlat
namespace Go.Proofs.YtlhndkonhjjcgaaGreatDoor
open Go.RowKit Go
def tagsV (f : Fo) : List Value := f.enc.map fun t => .int .u8 (t.1 : Int)
def valsV (f : Fo) : List Value := f.enc.map fun t => .int .i64 t.2
theorem tagsV_app (f g : Fo) : tagsV (f.app g) = tagsV f ++ tagsV g := by simp [tagsV, Fo.enc_app]
theorem valsV_app (f g : Fo) : valsV (f.app g) = valsV f ++ valsV g := by simp [valsV, Fo.enc_app]
theorem tagsV_len (f : Fo) : (tagsV f).length = f.size := by simp [tagsV, Fo.enc_len]
theorem valsV_len (f : Fo) : (valsV f).length = f.size := by simp [valsV, Fo.enc_len]
/-- Both rows. -/
def Two (B : Nat) (t v : Value) (ts vs : List Value) (w0 w : World) : Prop := OwnG 5 B t ts w ∧ OwnG 3 B v vs w ∧ Below B w0 w ∧ B ≤ w0.heap.size
theorem ne_ty : (5 : Nat) ≠ 3 := by decide
theorem two_t {B : Nat} {t v t' : Value} {ts vs : List Value} {x : Value} {w0 w w1 : World} (h : Two B t v ts vs w0 w) (ho : OwnG 5 B t' (ts ++ [x]) w1) (hb : Below B w w1) (hg : Grew w t t' w1) : Two B t' v (ts ++ [x]) vs w0 w1 :=
  ⟨ho, ownG_keep h.2.1 fun g e => hg.block g (ownG_lt h.2.1 g e).2 (ownG_apart h.2.1 h.1 (Ne.symm ne_ty) g e), h.2.2.1.trans hb, h.2.2.2⟩
theorem two_v {B : Nat} {t v v' : Value} {ts vs : List Value} {x : Value} {w0 w w1 : World} (h : Two B t v ts vs w0 w) (ho : OwnG 3 B v' (vs ++ [x]) w1) (hb : Below B w w1) (hg : Grew w v v' w1) : Two B t v' ts (vs ++ [x]) w0 w1 :=
  ⟨ownG_keep h.1 fun g e => hg.block g (ownG_lt h.1 g e).2 (ownG_apart h.1 h.2.1 ne_ty g e), ho, h.2.2.1.trans hb, h.2.2.2⟩
theorem two_B {B : Nat} {t v : Value} {ts vs : List Value} {w0 w : World} (h : Two B t v ts vs w0 w) : B ≤ w.heap.size := Nat.le_trans h.2.2.2 h.2.2.1.size
def EncPost (B : Nat) (ts vs : List Value) (w : World) (e : Ending) (w' : World) : Prop := ∃ t v, e = .returned (.tuple #[t, v]) ∧ Two B t v ts vs w w'
theorem by_1 : 1 ≤ 16 := by decide
theorem by_8 : 8 ≤ 16 := by decide
set_option maxRecDepth 100000 in
set_option maxHeartbeats 3200000 in
theorem encT_fuel (S : Nat → Prop) : ∀ (n : Nat) (f : Fo), f.size < n → ∀ (B : Nat), (∀ b, S b → b < B) → ∀ (t v : Value) (ts vs : List Value) (ao : Option Addr) (us : List Value) (c : Nat) (w : World),
    Two B t v ts vs w w → ArrIn S w ao us → Rep S w f us → ts.length + f.size ≤ 1048576 → vs.length + f.size ≤ 1048576 →
    Calls Tryz.prog 16 #[.slice ao us.length c, t, v] w (EncPost B (ts ++ tagsV f) (vs ++ valsV f) w) := by
  intro n
  induction n with
  | zero => intro f h; omega
  | succ n ih =>
    intro f hf B hS t0 v0 ts0 vs0 ao us c w hown ha hr hsz hsz2
    have IH := Lib.hid ih
    have HF := Lib.hid hf
    have HS := Lib.hid hS
    have HA := Lib.hid ha
    have HR := Lib.hid hr
    have HSz := Lib.hid (And.intro hsz hsz2)
    have HM0 := Lib.hid hown
    have HLus := Lib.hid hr.len
    clear ih hf hS ha hr hown hsz hsz2
    obtain ⟨m, hm⟩ : ∃ m, us.length = m := ⟨_, rfl⟩
    have HM := Lib.hid hm
    rw [hm]
    have hmb : m ≤ 1048576 := by have := HLus.out; have := HSz.out; omega
    clear hm
    go_enter Tryz.func16, Tryz.ntmps16
    go_wp2
    go_loopw [1, 2, 14] (fun t v ix wr => ∃ (k : Nat) (dn rs : Fo), k ≤ m ∧ ix = .int .i64 (k : Int) ∧ Hid (Rest S w f dn rs us k) ∧ Hid (Two B t v (ts0 ++ tagsV dn) (vs0 ++ valsV dn) w wr)) (fun _ _ ix _ => m - (intOf ix).toNat)
    case atStart => exact ⟨0, .nil, f, Nat.zero_le _, rfl, Lib.hid ⟨rfl, HR.out⟩, Lib.hid (by simpa [tagsV, valsV, Fo.enc] using HM0.out)⟩
    case round =>
      obtain ⟨k, dn, rs, hk, rfl, HP, HO⟩ := hrel
      clear HM0
      have HRz := Lib.hid (rest_size HP.out)
      cases rs with
      | nil =>
        obtain ⟨e1, e2⟩ := rest_nil HP.out (by rw [HM.out]; exact hk)
        obtain rfl : k = m := by rw [e2, HM.out]
        have HE := Lib.hid e1
        clear e1 e2 HP
        go_wp2
        go_ret2
        exact ⟨_, _, rfl, by rw [HE.out]; exact HO.out⟩
      | leaf v r =>
        obtain ⟨hkL, e1, hl⟩ := rest_leaf HP.out
        have HS1 := Lib.hid hl
        have hlt : k < m := by rw [← HM.out]; exact hkL
        obtain ⟨b, hao, hSb, hc⟩ := (HA.out.keep (fun b hb => HO.out.2.2.1.block b (HS.out b hb))) k hkL
        rw [e1] at hc
        have HZ := Lib.hid (show (ts0 ++ tagsV dn).length + 1 ≤ 4294967296 ∧ (vs0 ++ valsV dn).length + 1 ≤ 4294967296 from by
          rw [List.length_append, List.length_append, tagsV_len, valsV_len]
          have := HRz.out
          have := HSz.out
          omega)
        clear hl e1 HP hSb hkL
        subst hao
        go_wp2_with (at_builtin; refine app_gen 22 5 (.int .u8 0) 1 Tryz.underlying22 info_u8 rfl (by_1) rfl _ _ rfl B _ _ (ts0 ++ tagsV dn) (.int .u8 0) _ _ _ rfl ?cb1 rfl rfl rfl ?co1 ?cB1 ?cl1 ?_)
        case cb1 => first | rfl | simp
        case co1 => exact HO.out.1
        case cB1 => exact two_B HO.out
        case cl1 => exact HZ.out.1
        intro a1 w1 ho hb hg
        have HO1 := Lib.hid (show Two B a1 _ (ts0 ++ tagsV dn ++ [.int .u8 0]) (vs0 ++ valsV dn) w w1 from two_t HO.out (by first | exact ho | simpa using ho) hb hg)
        clear ho hb hg
        go_wp2_with (at_builtin; refine app_gen 23 3 (.int .i64 0) 8 Tryz.underlying23 info_int rfl (by_8) rfl _ _ rfl B _ _ (vs0 ++ valsV dn) (.int .i64 v) _ _ _ rfl ?cb2 rfl rfl rfl ?co2 ?cB2 ?cl2 ?_)
        case cb2 => first | rfl | simp
        case co2 => exact HO1.out.2.1
        case cB2 => exact two_B HO1.out
        case cl2 => exact HZ.out.2
        intro a2 w2 ho hb hg
        have HO2 := Lib.hid (show Two B _ a2 (ts0 ++ tagsV dn ++ [.int .u8 0]) (vs0 ++ valsV dn ++ [.int .i64 v]) w w2 from two_v HO1.out (by first | exact ho | simpa using ho) hb hg)
        clear ho hb hg
        have HX := Lib.hid (show Two B _ _ (ts0 ++ tagsV (dn.app (.leaf v .nil))) (vs0 ++ valsV (dn.app (.leaf v .nil))) w _ from by
          have h := HO2.out
          rw [tagsV_app, valsV_app, ← List.append_assoc, ← List.append_assoc]
          exact h)
        go_wp2
        go_roundw
        case rel => exact ⟨k + 1, _, r, by omega, by go_num, HS1, HX⟩
        case measure => simp [intOf]; omega
      | node kd r =>
        obtain ⟨hkL, kao, ks, kc, e1, ka, kr, hl, hsz1, hdp1⟩ := rest_node HP.out
        have HS1 := Lib.hid hl
        have HKA := Lib.hid ka
        have HKR := Lib.hid kr
        have HKz := Lib.hid hsz1
        have hlt : k < m := by rw [← HM.out]; exact hkL
        obtain ⟨b, hao, hSb, hc⟩ := (HA.out.keep (fun b hb => HO.out.2.2.1.block b (HS.out b hb))) k hkL
        rw [e1] at hc
        have HZ := Lib.hid (show (ts0 ++ tagsV dn).length + kd.size + 2 ≤ 1048576 ∧ (vs0 ++ valsV dn).length + kd.size + 2 ≤ 1048576 from by
          rw [List.length_append, List.length_append, tagsV_len, valsV_len]
          have h1 := HRz.out
          have h2 := HSz.out
          simp only [Fo.size] at h1
          omega)
        clear hl e1 HP hSb hkL ka kr hsz1 hdp1
        subst hao
        go_wp2_with (at_builtin; refine app_gen 22 5 (.int .u8 0) 1 Tryz.underlying22 info_u8 rfl (by_1) rfl _ _ rfl B _ _ (ts0 ++ tagsV dn) (.int .u8 1) _ _ _ rfl ?cb3 rfl rfl rfl ?co3 ?cB3 ?cl3 ?_)
        case cb3 => first | rfl | simp
        case co3 => exact HO.out.1
        case cB3 => exact two_B HO.out
        case cl3 => have := HZ.out; omega
        intro a3 w3 ho hb hg
        have HO1 := Lib.hid (show Two B a3 _ (ts0 ++ tagsV dn ++ [.int .u8 1]) (vs0 ++ valsV dn) w w3 from two_t HO.out (by first | exact ho | simpa using ho) hb hg)
        clear ho hb hg
        go_wp2_with (at_builtin; refine app_gen 23 3 (.int .i64 0) 8 Tryz.underlying23 info_int rfl (by_8) rfl _ _ rfl B _ _ (vs0 ++ valsV dn) (.int .i64 0) _ _ _ rfl ?cb4 rfl rfl rfl ?co4 ?cB4 ?cl4 ?_)
        case cb4 => first | rfl | simp
        case co4 => exact HO1.out.2.1
        case cB4 => exact two_B HO1.out
        case cl4 => have := HZ.out; omega
        intro a4 w4 ho hb hg
        have HO2 := Lib.hid (show Two B _ a4 (ts0 ++ tagsV dn ++ [.int .u8 1]) (vs0 ++ valsV dn ++ [.int .i64 0]) w w4 from two_v HO1.out (by first | exact ho | simpa using ho) hb hg)
        clear ho hb hg
        have HC := Lib.hid (show ∀ (t v : Value) (W : World), Two B t v (ts0 ++ tagsV dn ++ [.int .u8 1]) (vs0 ++ valsV dn ++ [.int .i64 0]) w W → Calls Tryz.prog 16 #[.slice kao ks.length kc, t, v] W (EncPost B (ts0 ++ tagsV dn ++ [.int .u8 1] ++ tagsV kd) (vs0 ++ valsV dn ++ [.int .i64 0] ++ valsV kd) W) from fun t v W hW => by
          exact IH.out kd (by have := HF.out; have := HKz.out; omega) B HS.out t v _ _ kao ks kc W ⟨hW.1, hW.2.1, Below.refl _ _, two_B hW⟩ (HKA.out.keep (fun b hb => hW.2.2.1.block b (HS.out b hb))) (HKR.out.keep (fun b hb => hW.2.2.1.block b (HS.out b hb))) (by have := HZ.out; rw [List.length_append, List.length_singleton]; omega) (by have := HZ.out; rw [List.length_append, List.length_singleton]; omega))
        go_wp2_with fail
        try go_at_call 16
        refine (HC.out _ _ _ HO2.out).mono ?_
        rintro e w3 ⟨t3, v3, rfl, h3⟩
        have HO3 := Lib.hid (show Two B t3 v3 (ts0 ++ tagsV dn ++ [.int .u8 1] ++ tagsV kd) (vs0 ++ valsV dn ++ [.int .i64 0] ++ valsV kd) w w3 from ⟨h3.1, h3.2.1, HO2.out.2.2.1.trans h3.2.2.1, HO2.out.2.2.2⟩)
        have HZ3 := Lib.hid (show (ts0 ++ tagsV dn ++ [Value.int .u8 1] ++ tagsV kd).length + 1 ≤ 4294967296 ∧ (vs0 ++ valsV dn ++ [Value.int .i64 0] ++ valsV kd).length + 1 ≤ 4294967296 from by
          have := HZ.out
          simp only [List.length_append, List.length_cons, List.length_nil, tagsV_len, valsV_len] at this ⊢
          omega)
        clear h3 HC HO1 HO2
        go_wp2_with (at_builtin; refine app_gen 22 5 (.int .u8 0) 1 Tryz.underlying22 info_u8 rfl (by_1) rfl _ _ rfl B _ _ (ts0 ++ tagsV dn ++ [.int .u8 1] ++ tagsV kd) (.int .u8 2) _ _ _ rfl ?cb5 rfl rfl rfl ?co5 ?cB5 ?cl5 ?_)
        case cb5 => first | rfl | simp
        case co5 => exact HO3.out.1
        case cB5 => exact two_B HO3.out
        case cl5 => exact HZ3.out.1
        intro a5 w5 ho hb hg
        have HO4 := Lib.hid (show Two B a5 _ (ts0 ++ tagsV dn ++ [.int .u8 1] ++ tagsV kd ++ [.int .u8 2]) (vs0 ++ valsV dn ++ [.int .i64 0] ++ valsV kd) w w5 from two_t HO3.out (by first | exact ho | simpa using ho) hb hg)
        clear ho hb hg
        go_wp2_with (at_builtin; refine app_gen 23 3 (.int .i64 0) 8 Tryz.underlying23 info_int rfl (by_8) rfl _ _ rfl B _ _ (vs0 ++ valsV dn ++ [.int .i64 0] ++ valsV kd) (.int .i64 0) _ _ _ rfl ?cb6 rfl rfl rfl ?co6 ?cB6 ?cl6 ?_)
        case cb6 => first | rfl | simp
        case co6 => exact HO4.out.2.1
        case cB6 => exact two_B HO4.out
        case cl6 => exact HZ3.out.2
        intro a6 w6 ho hb hg
        have HO5 := Lib.hid (show Two B _ a6 (ts0 ++ tagsV dn ++ [.int .u8 1] ++ tagsV kd ++ [.int .u8 2]) (vs0 ++ valsV dn ++ [.int .i64 0] ++ valsV kd ++ [.int .i64 0]) w w6 from two_v HO4.out (by first | exact ho | simpa using ho) hb hg)
        clear ho hb hg
        have HX := Lib.hid (show Two B _ _ (ts0 ++ tagsV (dn.app (.node kd .nil))) (vs0 ++ valsV (dn.app (.node kd .nil))) w _ from by
          have h := HO5.out
          have e1 : ts0 ++ tagsV (dn.app (.node kd .nil)) = ts0 ++ tagsV dn ++ [.int .u8 1] ++ tagsV kd ++ [.int .u8 2] := by rw [tagsV_app]; simp [tagsV, Fo.enc]
          have e2 : vs0 ++ valsV (dn.app (.node kd .nil)) = vs0 ++ valsV dn ++ [.int .i64 0] ++ valsV kd ++ [.int .i64 0] := by rw [valsV_app]; simp [valsV, Fo.enc]
          rw [e1, e2]
          exact h)
        go_wp2
        go_roundw
        case rel => exact ⟨k + 1, _, r, by omega, by go_num, HS1, HX⟩
        case measure => simp [intOf]; omega
end Go.Proofs.YtlhndkonhjjcgaaGreatDoor
