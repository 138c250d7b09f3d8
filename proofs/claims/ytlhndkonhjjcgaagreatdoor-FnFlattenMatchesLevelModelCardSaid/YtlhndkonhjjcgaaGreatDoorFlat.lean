/- flatten, walked. Conditions: at most 1048576 signs; the depth can be counted down as far as the forest goes. -/
import Derived.Test.YtlhndkonhjjcgaaGreatDoorRow
import Derived.Laws.FloatArith
namespace Go.Proofs.YtlhndkonhjjcgaaGreatDoor
open Go.RowKit Go
@[go_sem] theorem as_int_arr (v : Value) (w : World) : (Instr.typeAssert (.iface 3 v) 20 35 true).run Tryz.prog w = .ok (.tuple #[.slice none 0 0, .bool false]) w := by kernel_rfl
@[go_sem] theorem as_int_int (v : Value) (w : World) : (Instr.typeAssert (.iface 3 v) 20 3 true).run Tryz.prog w = .ok (.tuple #[v, .bool true]) w := by kernel_rfl
@[go_sem] theorem as_arr_arr (v : Value) (w : World) : (Instr.typeAssert (.iface 35 v) 20 35 true).run Tryz.prog w = .ok (.tuple #[v, .bool true]) w := by kernel_rfl
@[go_sem] theorem as_arr_int (v : Value) (w : World) : (Instr.typeAssert (.iface 35 v) 20 3 true).run Tryz.prog w = .ok (.tuple #[.int .i64 0, .bool false]) w := by kernel_rfl
/-- The depth d, counted down, meets zero where o says so; l levels are looked at. -/
def Dok : Nat → Nat → Option Nat → Prop
  | _, d, some 0 => (FloatKind.f64.format.order d 0 == some .eq) = true
  | 0, _, some (_ + 1) => True
  | 0, _, none => True
  | l + 1, d, some (n + 1) => (FloatKind.f64.format.order d 0 == some .eq) = false ∧ ∃ d', Ieee.double.sub d 4607182418800017408 = some d' ∧ Dok l d' (some n)
  | l + 1, d, none => (FloatKind.f64.format.order d 0 == some .eq) = false ∧ ∃ d', Ieee.double.sub d 4607182418800017408 = some d' ∧ Dok l d' none
theorem dok_zero {l d : Nat} (h : Dok l d (some 0)) : (FloatKind.f64.format.order d 0 == some .eq) = true := by cases l <;> exact h
/-- The depth one level down. -/
def down : Option Nat → Option Nat
  | some (n + 1) => some n
  | some 0 => some 0
  | none => none
theorem dok_down {l d : Nat} {o : Option Nat} (h : Dok (l + 1) d o) (ho : o ≠ some 0) : (FloatKind.f64.format.order d 0 == some .eq) = false ∧ ∃ d', Ieee.double.sub d 4607182418800017408 = some d' ∧ Dok l d' (down o) := by
  match o, h with
  | some 0, _ => exact absurd rfl ho
  | some (n + 1), h => exact h
  | none, h => exact h
theorem flat_node (dn kd : Fo) (o : Option Nat) (ho : o ≠ some 0) : (dn.app (.node kd .nil)).flat o = (dn.flat o).app (kd.flat (down o)) := by
  rw [Fo.flat_app]
  match o with
  | some 0 => exact absurd rfl ho
  | some (n + 1) => simp only [Fo.flat, down, Fo.app_nil]
  | none => simp only [Fo.flat, down, Fo.app_nil]
theorem flat_keep (dn kd : Fo) : (dn.app (.node kd .nil)).flat (some 0) = (dn.flat (some 0)).app (.node kd .nil) := by
  rw [Fo.flat_zero, Fo.flat_zero]
theorem flat_leaf (dn : Fo) (v : Int) (o : Option Nat) : (dn.app (.leaf v .nil)).flat o = (dn.flat o).app (.leaf v .nil) := by
  rw [Fo.flat_app]; rfl
theorem deep_app (f g : Fo) : g.deep ≤ (f.app g).deep := by
  induction f with
  | nil => exact Nat.le_refl _
  | leaf v r ih => exact ih
  | node k r _ ih => simp only [Fo.app, Fo.deep]; omega
def ltF (a b : Nat) : Bool := FloatKind.f64.format.order a b == some .lt || FloatKind.f64.format.order a a != some .eq
def FlatPost (S : Nat → Prop) (B : Nat) (g : Fo) (w : World) (e : Ending) (w' : World) : Prop := ∃ v us, e = .returned v ∧ OwnG 20 B v us w' ∧ Rep S w' g us ∧ Below B w w'
/-- What the loop holds. -/
def Made (S : Nat → Prop) (B : Nat) (w : World) (v : Value) (g : Fo) (zs : List Value) (wr : World) : Prop := OwnG 20 B v zs wr ∧ Rep S wr g zs ∧ Below B w wr
def Rest (S : Nat → Prop) (w : World) (f dn rs : Fo) (us : List Value) (k : Nat) : Prop := f = dn.app rs ∧ Rep S w rs (us.drop k)
theorem drop_cons {us : List Value} {k : Nat} {u : Value} {m : List Value} (h : us.drop k = u :: m) : ∃ hk : k < us.length, us[k]'hk = u ∧ us.drop (k + 1) = m := by
  have e : (us.drop k)[0]? = some u := by rw [h]; rfl
  rw [List.getElem?_drop, Nat.add_zero] at e
  obtain ⟨hk, hv⟩ := List.getElem?_eq_some_iff.1 e
  exact ⟨hk, hv, by rw [← List.drop_drop, h]; rfl⟩
theorem rest_nil {S : Nat → Prop} {w : World} {f dn : Fo} {us : List Value} {k : Nat} (h : Rest S w f dn .nil us k) (hk : k ≤ us.length) : f = dn ∧ k = us.length := by
  obtain ⟨h1, h2⟩ := h
  rw [Fo.app_nil] at h1
  refine ⟨h1, ?_⟩
  have := congrArg List.length (show us.drop k = [] from h2)
  simp at this
  omega
theorem rest_leaf {S : Nat → Prop} {w : World} {f dn r : Fo} {v : Int} {us : List Value} {k : Nat} (h : Rest S w f dn (.leaf v r) us k) : ∃ hk : k < us.length, us[k]'hk = .iface 3 (.int .i64 v) ∧ Rest S w f (dn.app (.leaf v .nil)) r us (k + 1) := by
  obtain ⟨h1, us', h2, h3⟩ := h
  obtain ⟨hk, e1, e2⟩ := drop_cons h2
  exact ⟨hk, e1, by rw [h1, Fo.app_app]; rfl, by rw [e2]; exact h3⟩
theorem rest_node {S : Nat → Prop} {w : World} {f dn kd r : Fo} {us : List Value} {k : Nat} (h : Rest S w f dn (.node kd r) us k) : ∃ (hk : k < us.length) (ao : Option Addr) (ks : List Value) (c : Nat), us[k]'hk = .iface 35 (.slice ao ks.length c) ∧ ArrIn S w ao ks ∧ Rep S w kd ks ∧ Rest S w f (dn.app (.node kd .nil)) r us (k + 1) ∧ kd.size < f.size ∧ kd.deep < f.deep := by
  obtain ⟨h1, us', ao, ks, c, h2, h3, h4, h5⟩ := h
  obtain ⟨hk, e1, e2⟩ := drop_cons h2
  refine ⟨hk, ao, ks, c, e1, h3, h4, ⟨by rw [h1, Fo.app_app]; rfl, by rw [e2]; exact h5⟩, ?_, ?_⟩
  · rw [h1, Fo.size_app]; simp only [Fo.size]; omega
  · have := deep_app dn (.node kd r)
    rw [← h1] at this
    simp only [Fo.deep] at this
    omega
theorem rest_size {S : Nat → Prop} {w : World} {f dn rs : Fo} {us : List Value} {k : Nat} (h : Rest S w f dn rs us k) : dn.size + rs.size = f.size := by rw [h.1, Fo.size_app]
theorem made_push {S : Nat → Prop} {B : Nat} {w wr w1 : World} {v v1 : Value} {g a : Fo} {zs : List Value} {u : Value} (hS : ∀ b, S b → b < B) (h : Made S B w v g zs wr) (ho : OwnG 20 B v1 (zs ++ [u]) w1) (hb : Below B wr w1) (hu : Rep S wr a [u]) : Made S B w v1 (g.app a) (zs ++ [u]) w1 :=
  ⟨ho, (h.2.1.keep (fun b hb' => hb.block b (hS b hb'))).app (hu.keep (fun b hb' => hb.block b (hS b hb'))), h.2.2.trans hb⟩
set_option maxRecDepth 100000 in
set_option maxHeartbeats 3200000 in
theorem flat_fuel (S : Nat → Prop) : ∀ (n : Nat) (f : Fo), f.size < n → ∀ (o : Option Nat) (l d : Nat), f.deep ≤ l → Dok l d o → ∀ (B : Nat), (∀ b, S b → b < B) → ∀ (g : Fo) (v0 : Value) (zs : List Value) (ao : Option Addr) (us : List Value) (c : Nat) (w : World),
    OwnG 20 B v0 zs w → B ≤ w.heap.size → Rep S w g zs → ArrIn S w ao us → Rep S w f us → g.size + f.size ≤ 1048576 →
    Calls Tryz.prog 20 #[v0, .slice ao us.length c, .float .f64 d] w (FlatPost S B (g.app (f.flat o)) w) := by
  intro n
  induction n with
  | zero => intro f h; omega
  | succ n ih =>
    intro f hf o l d hl hd B hS g v0 zs0 ao us c w hown hB hg ha hr hsz
    have IH := Lib.hid ih
    have HF := Lib.hid hf
    have HL := Lib.hid hl
    have HD := Lib.hid hd
    have HS := Lib.hid hS
    have HA := Lib.hid ha
    have HR := Lib.hid hr
    have HSz := Lib.hid hsz
    have HM0 := Lib.hid (show Made S B w v0 g zs0 w from ⟨hown, hg, Below.refl _ _⟩)
    have HLus := Lib.hid hr.len
    clear ih hf hl hd hS ha hr hown hg hsz
    obtain ⟨m, hm⟩ : ∃ m, us.length = m := ⟨_, rfl⟩
    have HM := Lib.hid hm
    rw [hm]
    have hmb : m ≤ 1048576 := by have := HLus.out; have := HSz.out; omega
    clear hm
    go_enter Tryz.func20, Tryz.ntmps20
    go_wp2
    go_loopw [0, 13] (fun xs ix wr => ∃ (k : Nat) (dn rs : Fo) (zs : List Value), k ≤ m ∧ ix = .int .i64 (k : Int) ∧ Hid (Rest S w f dn rs us k) ∧ Hid (Made S B w xs (g.app (dn.flat o)) zs wr)) (fun _ ix _ => m - (intOf ix).toNat)
    case atStart => exact ⟨0, .nil, f, zs0, Nat.zero_le _, rfl, Lib.hid ⟨rfl, HR.out⟩, Lib.hid (by rw [show (Fo.nil.flat o) = .nil from rfl, Fo.app_nil]; exact HM0.out)⟩
    case round =>
      obtain ⟨k, dn, rs, zs, hk, rfl, HP, HO⟩ := hrel
      clear HM0
      have HLs := Lib.hid (show zs.length + 1 ≤ 4294967296 from by
        have h1 := HO.out.2.1.len
        rw [Fo.size_app] at h1
        have h2 := Fo.flat_size dn o
        have h3 := rest_size HP.out
        have := HSz.out
        omega)
      have HBw := Lib.hid (show B ≤ _ from Nat.le_trans hB HO.out.2.2.size)
      cases rs with
      | nil =>
        obtain ⟨e1, e2⟩ := rest_nil HP.out (by rw [HM.out]; exact hk)
        obtain rfl : k = m := by rw [e2, HM.out]
        have HE := Lib.hid e1
        clear e1 e2 HP
        go_wp2
        go_ret
        exact ⟨_, _, rfl, HO.out.1, by rw [HE.out]; exact HO.out.2.1, HO.out.2.2⟩
      | leaf v r =>
        obtain ⟨hkL, e1, hl⟩ := rest_leaf HP.out
        have HS1 := Lib.hid hl
        have hlt : k < m := by rw [← HM.out]; exact hkL
        obtain ⟨b, hao, hSb, hc⟩ := (HA.out.keep (fun b hb => HO.out.2.2.block b (HS.out b hb))) k hkL
        rw [e1] at hc
        clear hl e1 HP hSb hkL
        subst hao
        go_wp2_with (at_builtin; refine app_gen 35 20 .nilIface 16 Tryz.underlying35 info_any rfl (Nat.le_refl 16) rfl _ _ rfl B _ _ zs (.iface 3 (.int .i64 v)) _ _ _ rfl ?cb1 rfl rfl rfl ?co1 ?cB1 ?cl1 ?_)
        case cb1 => first | rfl | simp
        case co1 => exact HO.out.1
        case cB1 => exact HBw.out
        case cl1 => exact HLs.out
        intro v1 w1 ho hb hg
        have HX := Lib.hid (show Made S B w v1 (g.app ((dn.app (.leaf v .nil)).flat o)) (zs ++ [.iface 3 (.int .i64 v)]) w1 from by
          rw [flat_leaf, ← Fo.app_app]
          exact made_push HS.out HO.out ho hb ⟨[], rfl, rfl⟩)
        clear ho hb hg
        go_wp2
        go_roundw
        case rel => exact ⟨k + 1, _, r, _, by omega, by go_num, HS1, HX⟩
        case measure => simp [intOf]; omega
      | node kd r =>
        obtain ⟨hkL, kao, ks, kc, e1, ka, kr, hl, hsz1, hdp1⟩ := rest_node HP.out
        have HS1 := Lib.hid hl
        have HKA := Lib.hid ka
        have HKR := Lib.hid kr
        have HKz := Lib.hid hsz1
        have HKd := Lib.hid hdp1
        have hlt : k < m := by rw [← HM.out]; exact hkL
        obtain ⟨b, hao, hSb, hc⟩ := (HA.out.keep (fun b hb => HO.out.2.2.block b (HS.out b hb))) k hkL
        rw [e1] at hc
        have HRz := Lib.hid (rest_size HP.out)
        clear hl e1 HP hSb hkL ka kr hsz1 hdp1
        subst hao
        by_cases ho0 : o = some 0
        · subst ho0
          have hz1 := dok_zero HD.out
          have hz2 : (FloatKind.f64.format.order d 0 != some .eq) = false := by simp only [bne, hz1]; rfl
          go_wp2_with (at_builtin; refine app_gen 35 20 .nilIface 16 Tryz.underlying35 info_any rfl (Nat.le_refl 16) rfl _ _ rfl B _ _ zs (.iface 35 (.slice kao ks.length kc)) _ _ _ rfl ?cb2 rfl rfl rfl ?co2 ?cB2 ?cl2 ?_)
          case cb2 => first | rfl | simp
          case co2 => exact HO.out.1
          case cB2 => exact HBw.out
          case cl2 => exact HLs.out
          intro v1 w1 ho hb hg
          have HX := Lib.hid (show Made S B w v1 (g.app ((dn.app (.node kd .nil)).flat (some 0))) (zs ++ [.iface 35 (.slice kao ks.length kc)]) w1 from by
            rw [flat_keep, ← Fo.app_app]
            exact made_push HS.out HO.out ho hb ⟨[], kao, ks, kc, rfl, HKA.out.keep (fun b hb => HO.out.2.2.block b (HS.out b hb)), HKR.out.keep (fun b hb => HO.out.2.2.block b (HS.out b hb)), rfl⟩)
          clear ho hb hg
          go_wp2
          go_roundw
          case rel => exact ⟨k + 1, _, r, _, by omega, by go_num, HS1, HX⟩
          case measure => simp [intOf]; omega
        · obtain ⟨l', hl'⟩ : ∃ l', l = l' + 1 := ⟨l - 1, by have := HKd.out; have := HL.out; omega⟩
          have HDD := Lib.hid (show Dok (l' + 1) d o from by rw [← hl']; exact HD.out)
          obtain ⟨hz1, d', hsub, hd'⟩ := dok_down HDD.out ho0
          have hz2 : (FloatKind.f64.format.order d 0 != some .eq) = true := by simp only [bne, hz1]; rfl
          have hop : ∀ ty w, (binOp .sub ty (.float .f64 d) (.float .f64 4607182418800017408)).run Tryz.prog w = .ok (.float .f64 d') w := fun ty w => run_float_arith w .sub ty .f64 _ _ _ hsub
          have HC := Lib.hid (show ∀ (v : Value) (W : World), Made S B w v (g.app (dn.flat o)) zs W → Calls Tryz.prog 20 #[v, .slice kao ks.length kc, .float .f64 d'] W (FlatPost S B (g.app ((dn.app (.node kd .nil)).flat o)) W) from fun v W hW => by
            have h := IH.out kd (by have := HF.out; have := HKz.out; omega) (down o) l' d' (by have := HKd.out; have := HL.out; omega) hd' B HS.out (g.app (dn.flat o)) v zs kao ks kc W hW.1 (Nat.le_trans hB hW.2.2.size) hW.2.1 (HKA.out.keep (fun b hb => hW.2.2.block b (HS.out b hb))) (HKR.out.keep (fun b hb => hW.2.2.block b (HS.out b hb))) (by
              have h1 := HSz.out
              have h2 := HRz.out
              have h3 := Fo.flat_size dn o
              simp only [Fo.size] at h2
              rw [Fo.size_app]
              omega)
            rw [Fo.app_app, ← flat_node dn kd o ho0] at h
            exact h)
          clear hsub hd' HDD IH
          go_wp2_with fail
          try go_at_call 20
          refine (HC.out _ _ HO.out).mono ?_
          rintro e w1 ⟨v1, zs1, rfl, ho1, hr1, hb1⟩
          have HX := Lib.hid (show Made S B w v1 (g.app ((dn.app (.node kd .nil)).flat o)) zs1 w1 from ⟨ho1, hr1, HO.out.2.2.trans hb1⟩)
          clear ho1 hr1 hb1 HC hc hop
          go_wp2
          go_roundw
          case rel => exact ⟨k + 1, _, r, _, by omega, by go_num, HS1, HX⟩
          case measure => simp [intOf]; omega
end Go.Proofs.YtlhndkonhjjcgaaGreatDoor
