/- Rows of bytes, ints and interface values that the call owns; appending to them; what stays. Conditions: at most 2 to the 32 elements. -/
import Derived.Test.YtlhndkonhjjcgaaGreatDoorProg
import Derived.Test.YtlhndkonhjjcgaaGreatDoorFo
import Derived.WalkKit
import Derived.WalkLawsBesides
import Derived.WalkSpells
import Derived.Lib.Hide
import Derived.Below
import Derived.IntWalk
import Derived.Deep.QuietTactic
import Derived.Deep.RegionHeld3
import Derived.Deep.RegionWith
import Derived.BigQuiet
import Derived.Outline
import Derived.Lib.SliceRun
import Derived.Lib.AppendIntMem
import Derived.Lib.BufferWrite
import Derived.Laws.AppendOwn
import Derived.Laws.OwnMore
import Derived.Laws.MakeOwn
import Derived.ProofKit
namespace Go.Proofs.YtlhndkonhjjcgaaGreatDoor
open Go.RowKit Go
def Ret (v : Value) (w : World) (e : Ending) (w' : World) : Prop := e = .returned v ∧ w = w'
theorem ret_bool {b c : Bool} (h : b = c) : Ending.returned (.bool b) = .returned (.bool c) := by rw [h]
theorem info_u8 : (Tryz.prog.info? 5).map (fun i => (i.zero, i.size, i.bytes)) = some (some (.int .u8 0), 1, 1) := by kernel_rfl
theorem info_int : (Tryz.prog.info? 3).map (fun i => (i.zero, i.size, i.bytes)) = some (some (.int .i64 0), 1, 8) := by kernel_rfl
theorem info_any : (Tryz.prog.info? 20).map (fun i => (i.zero, i.size, i.bytes)) = some (some .nilIface, 1, 16) := by kernel_rfl
/-- v is a row of the call's own (from B on) of elements of type et that holds vs. -/
def OwnG (et : TypeId) (B : Nat) (v : Value) (vs : List Value) (w : World) : Prop := w.ownsRow B et 1 v vs.length vs
theorem ownG_slice {et : TypeId} {B : Nat} {v : Value} {vs : List Value} {w : World} (h : OwnG et B v vs w) : ∃ ao c, v = .slice ao vs.length c := by
  rcases h.2 with ⟨hv, h0⟩ | ⟨g, cap, cur, hv, _⟩
  · exact ⟨none, 0, by rw [h0]; exact hv⟩
  · exact ⟨_, _, hv⟩
theorem ownG_lt {et : TypeId} {B : Nat} {v : Value} {vs : List Value} {w : World} (h : OwnG et B v vs w) : ∀ k, v.ownBlock = some k → B ≤ k ∧ k < w.heap.size := World.ownsRow.lt h
/-- The elements lie in the blocks S, and read as ks. -/
def ArrIn (S : Nat → Prop) (w : World) (ao : Option Addr) (ks : List Value) : Prop := ∀ j (hj : j < ks.length), ∃ g, ao = some ⟨g, 0, none⟩ ∧ S g ∧ w.cell? ⟨g, j, none⟩ = some (ks[j]'hj)
theorem ownG_arr {et : TypeId} {B : Nat} {ao : Option Addr} {n c : Nat} {vs : List Value} {w : World} {S : Nat → Prop} (h : OwnG et B (.slice ao n c) vs w) (hS : ∀ g, B ≤ g → g < w.heap.size → S g) : ArrIn S w ao vs := by
  intro k hk
  rcases h.2 with ⟨_, h0⟩ | ⟨g, cap, cur, hv, hB, hg, _, _, _, ht⟩
  · omega
  · simp only [Value.slice.injEq] at hv
    refine ⟨g, hv.1, hS g hB (Lib.lt_of_heap hg), ?_⟩
    rw [Lib.cell_of_heap hg, ← Array.getElem?_toList]
    have e : (cur.toList.take (vs.length * 1))[k]? = vs[k]? := by rw [ht]
    rw [List.getElem?_take, if_pos (by omega)] at e
    rw [e, List.getElem?_eq_getElem hk]
theorem ownG_keep {et : TypeId} {B : Nat} {v : Value} {vs : List Value} {w w' : World} (h : OwnG et B v vs w) (hk : ∀ g, v.ownBlock = some g → w'.heap[g]? = w.heap[g]?) : OwnG et B v vs w' :=
  ⟨h.1, h.2.imp_right fun ⟨g, cap, cur, hv, hB, hg, r⟩ => ⟨g, cap, cur, hv, hB, (hk g (by rw [hv]; rfl)).trans hg, r⟩⟩
theorem ownG_below {et : TypeId} {B : Nat} {v : Value} {vs : List Value} {w w' : World} (h : OwnG et B v vs w) (hb : Below w.heap.size w w') : OwnG et B v vs w' :=
  ownG_keep h fun g hg => hb.block g (ownG_lt h g hg).2
theorem ownG_apart {et e2 : TypeId} {B C : Nat} {v u : Value} {vs us : List Value} {w : World} (h : OwnG et B v vs w) (h2 : OwnG e2 C u us w) (hne : et ≠ e2) : ∀ g, v.ownBlock = some g → some g ≠ u.ownBlock := by
  intro g hg hu
  rcases h.2 with ⟨hv, _⟩ | ⟨b, cap, cur, hv, _, hb, _⟩
  · rw [hv] at hg; simp [Value.ownBlock] at hg
  · rcases h2.2 with ⟨hv2, _⟩ | ⟨b2, cap2, cur2, hv2, _, hb2, _⟩
    · rw [hv2] at hu; simp [Value.ownBlock] at hu
    · rw [hv] at hg
      rw [hv2] at hu
      simp only [Value.ownBlock, Option.some.injEq] at hg hu
      subst hg
      subst hu
      rw [hb] at hb2
      simp only [Option.some.injEq, Obj.cells.injEq] at hb2
      exact hne hb2.2.1
theorem ArrIn.keep {S : Nat → Prop} {w w' : World} {ao : Option Addr} {ks : List Value} (h : ArrIn S w ao ks) (hk : ∀ g, S g → w'.heap[g]? = w.heap[g]?) : ArrIn S w' ao ks := fun j hj => by
  obtain ⟨g, h1, h2, h3⟩ := h j hj
  exact ⟨g, h1, h2, (World.cell?_of_block (a := ⟨g, j, none⟩) (hk g h2)).trans h3⟩
theorem ArrIn.up {S S' : Nat → Prop} {w : World} {ao : Option Addr} {ks : List Value} (h : ArrIn S w ao ks) (hS : ∀ g, S g → S' g) : ArrIn S' w ao ks := fun j hj => by
  obtain ⟨g, h1, h2, h3⟩ := h j hj
  exact ⟨g, h1, hS g h2, h3⟩
/-- The values us stand for the forest; all that they lead to lies in the blocks S. -/
def Rep (S : Nat → Prop) (w : World) : Fo → List Value → Prop
  | .nil, us => us = []
  | .leaf v r, us => ∃ us', us = .iface 3 (.int .i64 v) :: us' ∧ Rep S w r us'
  | .node k r, us => ∃ us' ao ks c, us = .iface 35 (.slice ao ks.length c) :: us' ∧ ArrIn S w ao ks ∧ Rep S w k ks ∧ Rep S w r us'
theorem Rep.keep {S : Nat → Prop} {w w' : World} (hk : ∀ g, S g → w'.heap[g]? = w.heap[g]?) {f : Fo} : ∀ {us : List Value}, Rep S w f us → Rep S w' f us := by
  induction f with
  | nil => intro us h; exact h
  | leaf v r ih => rintro us ⟨us', h1, h2⟩; exact ⟨us', h1, ih h2⟩
  | node k r ih1 ih2 => rintro us ⟨us', ao, ks, c, h1, h2, h3, h4⟩; exact ⟨us', ao, ks, c, h1, h2.keep hk, ih1 h3, ih2 h4⟩
theorem Rep.up {S S' : Nat → Prop} {w : World} (hS : ∀ g, S g → S' g) {f : Fo} : ∀ {us : List Value}, Rep S w f us → Rep S' w f us := by
  induction f with
  | nil => intro us h; exact h
  | leaf v r ih => rintro us ⟨us', h1, h2⟩; exact ⟨us', h1, ih h2⟩
  | node k r ih1 ih2 => rintro us ⟨us', ao, ks, c, h1, h2, h3, h4⟩; exact ⟨us', ao, ks, c, h1, h2.up hS, ih1 h3, ih2 h4⟩
theorem Rep.app {S : Nat → Prop} {w : World} {f g : Fo} : ∀ {us vs : List Value}, Rep S w f us → Rep S w g vs → Rep S w (f.app g) (us ++ vs) := by
  induction f with
  | nil => intro us vs h1 h2; cases h1; exact h2
  | leaf v r ih => rintro us vs ⟨us', rfl, h2⟩ h; exact ⟨us' ++ vs, rfl, ih h2 h⟩
  | node k r ih1 ih2 => rintro us vs ⟨us', ao, ks, c, rfl, h2, h3, h4⟩ h; exact ⟨us' ++ vs, ao, ks, c, rfl, h2, h3, ih2 h4 h⟩
theorem Rep.len {S : Nat → Prop} {w : World} {f : Fo} : ∀ {us : List Value}, Rep S w f us → us.length ≤ f.size := by
  induction f with
  | nil => intro us h; cases h; exact Nat.le_refl _
  | leaf v r ih => rintro us ⟨us', rfl, h2⟩; have := ih h2; simp only [List.length_cons, Fo.size]; omega
  | node k r ih1 ih2 => rintro us ⟨us', ao, ks, c, rfl, h2, h3, h4⟩; have := ih2 h4; simp only [List.length_cons, Fo.size]; omega
/-- What an append may have changed, and where the row now lies. -/
structure Grew (w : World) (v v' : Value) (w' : World) : Prop where
  size : w.heap.size ≤ w'.heap.size
  block : ∀ k, k < w.heap.size → some k ≠ v.ownBlock → w'.heap[k]? = w.heap[k]?
  place : v'.ownBlock = v.ownBlock ∨ ∃ g, v'.ownBlock = some g ∧ w.heap.size ≤ g
theorem wpList_app {P : Program} {w : World} {ops : Array Oper} {rest : List Oper} {o : Oper} {a : Act} {Q : Exit → Act → World → Prop} (hgd : o.guard = none) (sl x : Operand) (t u : TypeId)
    (ho : o.op = .call { callee := .builtin .append, args := #[sl, x], argTypes := #[t, u] }) {sv xv v : Value} {w1 : World} (hs : a.eval sl = sv) (hx : a.eval x = xv)
    (hr : (Builtin.append_ #[t, u] o.type #[sv, xv]).run P w = .ok v w1) (h : wpList P ops Q rest (a.put o.dst v) w1) : wpList P ops Q (o :: rest) a w := by
  refine wpList_plain hgd fun K hK => ?_
  unfold Oper.wp execOp
  simp only [ho, resolve, invoke, builtin, Sem.run_bind, Sem.run_pure, Result.andThen_ok, List.map_toArray, List.map_cons, List.map_nil, hs, hx, hr]
  exact hK _ _ h
/-- Appending one element: where the row lies afterwards. -/
theorem append_place (w : World) (B : Nat) (st ty et : TypeId) (i : TypeInfo) (z : Value) (bytes : Nat) (ht : Tryz.prog.underlying st = some (.slice et)) (hi : Tryz.prog.info? et = some i) (hz : i.zero = some z) (hsize : i.size = 1) (hby : i.bytes = bytes) (hzc : z.cells.size = 1)
    (v : Value) (vs : List Value) (hown : OwnG et B v vs w) (a : Addr) (u : Value) (hnews : w.cell? a = some u) (h1 : u.oneCell' = true) (hlim : vs.length + 1 ≤ 4294967296) (hb16 : bytes ≤ 16) (hB : B ≤ w.heap.size) :
    ∃ v' w', (Builtin.append_ #[st, st] ty #[v, .slice (some a) 1 1]).run Tryz.prog w = .ok v' w' ∧ OwnG et B v' (vs ++ [u]) w' ∧ w.grownBy w' v.ownBlock ∧ (v'.ownBlock = v.ownBlock ∨ ∃ g, v'.ownBlock = some g ∧ w.heap.size ≤ g) := by
  have hbb : (vs.length + 1) * bytes ≤ 140737488355328 := Nat.le_trans (Nat.mul_le_mul hlim hb16) (by decide)
  have hnews' : ∀ j u', [u][j]? = some u' → w.cell? (a.add j) = some u' := by
    intro j u' hj
    match j with
    | 0 => simp at hj; subst hj; simpa [Addr.add] using hnews
    | j + 1 => simp at hj
  obtain ⟨v', w', hr, ho, hg, _⟩ := run_append_own (P := Tryz.prog) w B st ty et i z 1 bytes ht hi hz hsize hby hzc (by decide) v vs.length vs hown a 1 1 [u] rfl hnews' (by simpa using h1) (by unfold maxLen; omega) hbb hB
  refine ⟨v', w', hr, by unfold OwnG; rw [List.length_append]; exact ho, hg, ?_⟩
  rcases hown.2 with ⟨rfl, h0⟩ | ⟨g, cap, cur, rfl, hbg, hgg, hnc, hcm, hcs, htake⟩
  · have hr2 := run_append_nil (P := Tryz.prog) w st ty et i z ht hi hz a 1 1 [u] (by rw [hsize]; rfl) hnews' (by omega) (by omega) (by rw [hby]; omega)
    rw [hr] at hr2
    simp only [Result.ok.injEq] at hr2
    right
    exact ⟨w.heap.size, by rw [hr2.1]; rfl, Nat.le_refl _⟩
  · by_cases hroom : vs.length + 1 ≤ cap
    · have hr2 := run_append_room (P := Tryz.prog) w st ty et i ht hi g vs.length cap cur hgg a 1 1 [u] (by rw [hsize]; rfl) hnews' (by simpa using h1) hroom (by rw [hsize, hcs]; simp; omega)
      rw [hr] at hr2
      simp only [Result.ok.injEq] at hr2
      left
      rw [hr2.1]; rfl
    · have holds : ∀ j u, vs[j]? = some u → w.cell? ((⟨g, 0, none⟩ : Addr).add j) = some u := World.ownsRow.cells hown (g := g) rfl
      have hr2 := run_append_grow (P := Tryz.prog) w st ty et i z ht hi hz ⟨g, 0, none⟩ vs.length cap vs (by rw [hsize]; simp) holds a 1 1 [u] (by rw [hsize]; rfl) hnews' (by omega) (by omega) (growslice_fits (by omega) (by rw [hby]; exact hbb))
      rw [hr] at hr2
      simp only [Result.ok.injEq] at hr2
      right
      exact ⟨w.heap.size, by rw [hr2.1]; rfl, Nat.le_refl _⟩
/-- One element that has just been laid in a block of its own is appended. -/
theorem app_gen (st et : TypeId) (z : Value) (bytes : Nat) (hu : Tryz.prog.underlying st = some (.slice et)) (hinfo : (Tryz.prog.info? et).map (fun i => (i.zero, i.size, i.bytes)) = some (some z, 1, bytes)) (hzc : z.cells.size = 1) (hby : bytes ≤ 16)
    {ops : Array Oper} {rest : List Oper} {o : Oper} {a : Act} {Q : Exit → Act → World → Prop} (hgd : o.guard = none) (sl x : Operand)
    (ho : o.op = .call { callee := .builtin .append, args := #[sl, x], argTypes := #[st, st] }) (B : Nat) (w : World) (v : Value) (vs : List Value) (u : Value) (cs : Array Value) (t : TypeId) (b : Nat)
    (hcs : cs = #[u]) (hb : b = w.heap.size) (hs : a.eval sl = v) (hx : a.eval x = .slice (some ⟨b, 0, none⟩) 1 1) (h1 : u.oneCell' = true)
    (hown : OwnG et B v vs w) (hB : B ≤ w.heap.size) (hlim : vs.length + 1 ≤ 4294967296)
    (h : ∀ v' w', OwnG et B v' (vs ++ [u]) w' → Below B w w' → Grew w v v' w' → wpList Tryz.prog ops Q rest (a.put o.dst v') w') : wpList Tryz.prog ops Q (o :: rest) a (w.alloc (.cells cs t)) := by
  obtain ⟨i0, hi, hz0, hz1, hz2⟩ := info_parts hinfo
  subst hcs hb
  have ha : OwnG et B v vs (w.alloc (.cells #[u] t)) := World.ownsRow.alloc hown (.cells #[u] t)
  obtain ⟨v', w', hr, ho', hg, hp⟩ := append_place (w.alloc (.cells #[u] t)) B st o.type et i0 z bytes hu hi hz0 hz1 hz2 hzc v vs ha ⟨w.heap.size, 0, none⟩ u (by rw [World.cell?_alloc_new]; rfl) h1 hlim hby (by simp; omega)
  refine wpList_app hgd sl x st st ho hs hx hr (h v' w' ho' ?_ ⟨?_, ?_, ?_⟩)
  · exact ((Below.refl B w).alloc hB _).grown hg (by simp; omega) (fun k hk => (World.ownsRow.lt ha k hk).1)
  · have := hg.size; simp at this; omega
  · intro k hk hne
    rw [hg.block k (by simp; omega) hne]
    exact Below.heap_alloc _ _ _ hk
  · rcases hp with hp | ⟨g, hp, hp2⟩
    · exact .inl hp
    · exact .inr ⟨g, hp, by simp at hp2; omega⟩
/-- The tokens as they lie in memory: a row of tags, a row of values. -/
def Toks (w : World) (ta va : Option Addr) (L : List (Nat × Int)) : Prop := ArrIn (· < w.heap.size) w ta (L.map fun t => .int .u8 (t.1 : Int)) ∧ ArrIn (· < w.heap.size) w va (L.map fun t => .int .i64 t.2)
theorem Toks.below {w w' : World} {ta va : Option Addr} {L : List (Nat × Int)} (h : Toks w ta va L) (hb : Below w.heap.size w w') : Toks w' ta va L :=
  ⟨(h.1.keep (fun g hg => hb.block g hg)).up (fun _ hg => Nat.lt_of_lt_of_le hg hb.size), (h.2.keep (fun g hg => hb.block g hg)).up (fun _ hg => Nat.lt_of_lt_of_le hg hb.size)⟩
theorem Toks.tag {w : World} {ta va : Option Addr} {L : List (Nat × Int)} (h : Toks w ta va L) (i : Nat) (hi : i < L.length) : ∃ g, ta = some ⟨g, 0, none⟩ ∧ w.cell? ⟨g, i, none⟩ = some (.int .u8 ((L[i]'hi).1 : Int)) := by
  obtain ⟨g, h1, _, h3⟩ := h.1 i (by simpa using hi)
  exact ⟨g, h1, by rw [h3]; simp⟩
theorem Toks.val {w : World} {ta va : Option Addr} {L : List (Nat × Int)} (h : Toks w ta va L) (i : Nat) (hi : i < L.length) : ∃ g, va = some ⟨g, 0, none⟩ ∧ w.cell? ⟨g, i, none⟩ = some (.int .i64 (L[i]'hi).2) := by
  obtain ⟨g, h1, _, h3⟩ := h.2 i (by simpa using hi)
  exact ⟨g, h1, by rw [h3]; simp⟩
end Go.Proofs.YtlhndkonhjjcgaaGreatDoor
