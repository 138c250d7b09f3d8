/- Where one array of ints occurs in another one: indices, walked; what the exports' reader makes of it. Conditions: at most 4096 elements. -/
import Derived.Test.YtlhkbdeceogjgaaGreatDoorInts9
import Derived.Laws.AppendOwn
import Derived.OwnWalk
namespace Go.Proofs.YtlhkbdeceogjgaaGreatDoor
open Go.RowKit Go
set_option maxRecDepth 100000 in
set_option maxHeartbeats 400000 in
theorem toAny_at (ao : Option Addr) (cap : Nat) (zs : List Int) (w : World) (hlen : zs.length ≤ 1048576) (hs : IntsArg w ao cap zs) :
    Calls Tryz.prog 56 #[.slice ao zs.length cap] w (Ret (.slice (some ⟨w.heap.size, 0, none⟩) zs.length zs.length) (w.alloc (.cells (part zs zs.length) 20))) := by
  have hmk := make_any w zs.length zs rfl hlen
  have Hs := Lib.hid hs.at'
  clear hs
  generalize hn : zs.length = n at *
  have Hz := Lib.hid hn
  clear hn
  go_enter Tryz.func56, Tryz.ntmps56
  go_wp2
  go_loopw [4, 5, 11] (fun _ _ i wr => ∃ k : Nat, k ≤ n ∧ i = .int .i64 k ∧ wr = w.alloc (.cells (part zs k) 20)) (fun _ _ i _ => n - (intOf i).toNat)
  case atStart => exact ⟨0, Nat.zero_le _, rfl, rfl⟩
  case round =>
    obtain ⟨k, hk, rfl, rfl⟩ := hrel
    by_cases hlt : k < n
    · obtain ⟨b, off, hao, hc⟩ := Hs.out k (by first | exact hlt | (rw [Hz.out]; exact hlt))
      cases hao
      have hb : b < w.heap.size := World.block_lt_of_cell? _ _ hc
      have hset := part_set zs k (by rw [Hz.out]; exact hlt)
      have hget := part_get zs k (by rw [Hz.out]; exact hlt)
      clear hmk
      go_wp2
      go_roundw
      case rel => exact ⟨k + 1, by omega, by go_num, rfl⟩
      case measure => simp [intOf]; omega
    · obtain rfl : k = n := by omega
      go_wp2
      go_ret
      exact ⟨rfl, rfl⟩
/-- The places at which xs stands in vs, below k. -/
def offs (vs xs : List Int) (k : Nat) : List Nat := (List.range k).filter fun i => (vs.drop i).take xs.length == xs
def wrapN (i : Nat) : Value := .iface 3 (.int .i64 i)
theorem offs_succ (vs xs : List Int) (k : Nat) : offs vs xs (k + 1) = if (vs.drop k).take xs.length = xs then offs vs xs k ++ [k] else offs vs xs k := by
  unfold offs
  rw [List.range_succ, List.filter_append]
  by_cases h : (vs.drop k).take xs.length = xs
  · rw [if_pos h]; simp [h]
  · rw [if_neg h]; simp [h]
theorem offs_le (vs xs : List Int) (k : Nat) : (offs vs xs k).length ≤ k := by
  unfold offs
  have := List.length_filter_le (fun i => (vs.drop i).take xs.length == xs) (List.range k)
  simpa using this
theorem cmpL_self : ∀ l : List Int, cmpL l l = 0
  | [] => rfl
  | x :: l => by rw [cmpL, if_neg (Int.lt_irrefl _), if_neg (Int.lt_irrefl _)]; exact cmpL_self l
theorem cmpL_eq_zero : ∀ a b : List Int, cmpL a b = 0 → a = b
  | [], [], _ => rfl
  | [], _ :: _, h => by simp [cmpL] at h
  | _ :: _, [], h => by simp [cmpL] at h
  | x :: xs, y :: ys, h => by
    rw [cmpL] at h
    split at h
    · omega
    · split at h
      · omega
      · rw [show x = y from by omega, cmpL_eq_zero xs ys h]
theorem geti_part (vs : List Int) (i m k : Nat) (hk : k < m) : geti ((vs.drop i).take m) k = geti vs (i + k) := by
  unfold geti
  rw [List.getD_eq_getElem?_getD, List.getD_eq_getElem?_getD, List.getElem?_take, if_pos hk, List.getElem?_drop]
/-- What indices leaves. -/
def IdxPost (vs xs : List Int) (w : World) (e : Ending) (w' : World) : Prop :=
  ∃ v, e = .returned (.iface 68 v) ∧ w'.ownsRow w.heap.size 20 1 v (offs vs xs (vs.length + 1 - xs.length)).length ((offs vs xs (vs.length + 1 - xs.length)).map wrapN) ∧ Below w.heap.size w w'
theorem ownsRow_drewN {w : World} {B s n : Nat} {e : TypeId} {v : Value} {xs : List Value} (h : w.ownsRow B e s v n xs) (q : Nat) : (w.drewN q).ownsRow B e s v n xs := h
theorem below_drewN {B : Nat} {w w1 : World} (h : Below B w w1) (n : Nat) : Below B w (w1.drewN n) := h.trans ⟨rfl, rfl, rfl, Nat.le_refl _, fun _ _ => rfl⟩
set_option maxRecDepth 100000 in
set_option maxHeartbeats 1600000 in
theorem indices_any (b1 b2 n m : Nat) (vs xs : List Int) (w : World) (hx : vs.length = n) (hy : xs.length = m) (hn : n ≤ 4096) (hm : m ≤ 4096) (h0 : 0 < m)
    (hs : ∀ k, k < n → w.cell? ⟨b1, k, none⟩ = some (.iface 3 (.int .i64 (geti vs k)))) (ht : ∀ k, k < m → w.cell? ⟨b2, k, none⟩ = some (.iface 3 (.int .i64 (geti xs k)))) :
    Calls Tryz.prog 55 #[.slice (some ⟨b1, 0, none⟩) n n, .slice (some ⟨b2, 0, none⟩) m m] w (IdxPost vs xs w) := by
  obtain ⟨i0, hi, hz0, hz1, hz2⟩ := info_parts infoAny
  have HEnd : Hid (∀ (v : Value) (w' : World), w'.ownsRow w.heap.size 20 1 v (offs vs xs (n + 1 - m)).length ((offs vs xs (n + 1 - m)).map wrapN) → Below w.heap.size w w' → IdxPost vs xs w (.returned (.iface 68 v)) w') :=
    Lib.hid (fun v w' h1 h2 => ⟨v, rfl, by rw [hx, hy]; exact h1, h2⟩)
  have HOff := Lib.hid (fun k => offs_succ vs xs k)
  have HLe := Lib.hid (fun k => offs_le vs xs k)
  have HXM := Lib.hid hy
  have HCmp : Hid (∀ (k : Nat) (wr : World), k + m ≤ n → Below w.heap.size w wr → Calls Tryz.prog 62 #[.iface 68 (.slice (some ⟨b1, k, none⟩) m (n - k)), .iface 68 (.slice (some ⟨b2, 0, none⟩) m m)] wr (RetD (.int .i64 (cmpL ((vs.drop k).take m) xs)) wr)) := Lib.hid (fun k wr hk hb => by
    refine compare_arr (some ⟨b1, k, none⟩) (some ⟨b2, 0, none⟩) m m (n - k) m ((vs.drop k).take m) xs wr (by simp; omega) hy (by omega) (by omega) (fun j hj => ⟨b1, k, rfl, ?_⟩) (fun j hj => ⟨b2, 0, rfl, ?_⟩)
    · have hc := hs (k + j) (by omega)
      rw [geti_part _ _ _ _ hj, hb.cell (p := ⟨b1, k + j, none⟩) (World.block_lt_of_cell? _ _ hc)]
      exact hc
    · have hc := ht j hj
      rw [Nat.zero_add, hb.cell (p := ⟨b2, j, none⟩) (World.block_lt_of_cell? _ _ hc)]
      exact hc)
  have hm0 : ((m : Int) == 0) = false := by rw [beq_eq_false_iff_ne]; omega
  clear hs ht hx hy
  go_enter Tryz.func55, Tryz.ntmps55
  go_wp2
  go_loopw [5, 6, 19] (fun v _ i wr => ∃ k : Nat, k ≤ n + 1 - m ∧ i = .int .i64 k ∧ wr.ownsRow w.heap.size 20 1 v (offs vs xs k).length ((offs vs xs k).map wrapN) ∧ Hid (Below w.heap.size w wr)) (fun _ _ i _ => n + 1 - m - (intOf i).toNat)
  case atStart => exact ⟨0, Nat.zero_le _, rfl, ⟨rfl, Or.inr ⟨w.heap.size, 0, #[], rfl, Nat.le_refl _, heap_alloc_new w _, Nat.le_refl _, Nat.zero_le _, rfl, rfl⟩⟩, Lib.hid ((Below.refl _ _).alloc (Nat.le_refl _) _)⟩
  case round =>
    obtain ⟨k, hk, rfl, hown, HB⟩ := hrel
    have HO := Lib.hid hown
    clear hown
    by_cases hlt : k + m ≤ n
    · have HC := Lib.hid (HCmp.out k wr hlt HB.out)
      have hle := HLe.out k
      by_cases he : (vs.drop k).take m = xs
      · have HE := Lib.hid (show cmpL ((vs.drop k).take m) xs = 0 from by rw [he]; exact cmpL_self _)
        have HS := Lib.hid (show offs vs xs (k + 1) = offs vs xs k ++ [k] from by rw [HOff.out, HXM.out, if_pos he])
        clear he
        go_wp2_with fail
        refine HC.out.mono ?_
        rintro e w1 ⟨rfl, nq, rfl⟩
        rw [HE.out]
        have hown2 := ownsRow_drewN HO.out nq
        have hb2 := below_drewN HB.out nq
        generalize wr.drewN nq = W2 at hown2 hb2 ⊢
        have hsz := hb2.size
        have HB2 := Lib.hid hb2
        clear hb2
        go_wp2_with (at_builtin; refine wpList_append_own _ rfl _ _ 68 rfl w.heap.size 20 i0 .nilIface 1 16 Tryz.underlying68 hi hz0 hz1 hz2 rfl (by decide) _ _ _ rfl (hown2.alloc _) ⟨W2.heap.size, 0, none⟩ 1 1 [wrapN k] rfl rfl ?c1 ?c2 ?c3 ?c4 ?c5 ?_)
        case c1 => intro j u hj; match j, hj with | 0, hj => (simp at hj; subst hj; simp [Addr.add, wrapN])
        case c2 => intro u hu; simp at hu; subst hu; rfl
        case c3 => unfold maxLen; omega
        case c4 => omega
        case c5 => simp; omega
        intro v' w3 hown3 hgrow _
        have HO3 := Lib.hid hown3
        have HB3 := Lib.hid ((HB2.out.alloc hsz _).grown hgrow (by simp; omega) (fun k hk => (hown2.lt k hk).1))
        clear hown3 hgrow hown2
        go_wp2
        go_roundw
        case rel => exact ⟨k + 1, by omega, by go_num, by rw [HS.out]; simpa using HO3.out, HB3⟩
        case measure => simp [intOf]; omega
      · have HE := Lib.hid (show (cmpL ((vs.drop k).take m) xs == 0) = false from by
          rw [beq_eq_false_iff_ne]; exact fun h => he (cmpL_eq_zero _ _ h))
        have HS := Lib.hid (show offs vs xs (k + 1) = offs vs xs k from by rw [HOff.out, HXM.out, if_neg he])
        clear he
        go_wp2_with fail
        refine HC.out.mono ?_
        rintro e w1 ⟨rfl, nq, rfl⟩
        have hE := HE.out
        have HB2 := Lib.hid (below_drewN HB.out nq)
        go_wp2
        go_roundw
        case rel => exact ⟨k + 1, by omega, by go_num, by rw [HS.out]; exact ownsRow_drewN HO.out nq, HB2⟩
        case measure => simp [intOf]; omega
    · have hkn : (n : Int) - m + 1 ≤ k := by omega
      have HK := Lib.hid (show n + 1 - m = k from by omega)
      go_wp2
      go_ret
      exact HEnd.out _ _ (by rw [HK.out]; exact HO.out) HB.out
end Go.Proofs.YtlhkbdeceogjgaaGreatDoor
