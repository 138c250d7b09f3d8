/- The law's sorted copy of a slice of ints, and its binary search. Conditions: at most 1048576 elements. -/
import Derived.Test.YtlhkbdeceogjgaaGreatDoorInts9
namespace Go.Proofs.YtlhkbdeceogjgaaGreatDoor
open Go.RowKit Go
def intsArr (l : List Int) : Array Value := (l.map (Value.int .i64)).toArray
theorem copied_full (zs : List Int) : copied zs zs.length = intsArr zs := by simp [copied, intsArr]
theorem intsArr_get (l : List Int) (k : Nat) (h : k < l.length) : (intsArr l)[k]? = some (.int .i64 (geti l k)) := by
  simp [intsArr, geti, List.getD_eq_getElem?_getD, List.getElem?_eq_getElem h]
theorem intsArr_set (l : List Int) (k : Nat) (z : Int) : (intsArr l).setIfInBounds k (.int .i64 z) = intsArr (l.set k z) := by
  apply Array.ext'
  simp [intsArr, List.setIfInBounds_toArray, List.map_set]
/-- The row while the element at k is being put into its place: j places are as they were, the place j is free (h lies there). -/
def ins (ys : List Int) (k j : Nat) (h : Int) : List Int := ys.take j ++ h :: ((ys.take k).drop j ++ ys.drop (k + 1))
theorem ins_length (ys : List Int) (k j : Nat) (h : Int) (hk : k < ys.length) (hj : j ≤ k) : (ins ys k j h).length = ys.length := by simp [ins]; omega
theorem ins_start (ys : List Int) (k : Nat) (hk : k < ys.length) : ins ys k k (geti ys k) = ys := by
  unfold ins
  have e : (ys.take k).drop k = [] := List.drop_of_length_le (by simp; omega)
  rw [e, List.nil_append]
  have e2 : geti ys k = ys[k] := by simp [geti, List.getD_eq_getElem?_getD, List.getElem?_eq_getElem hk]
  rw [e2, ← List.drop_eq_getElem_cons hk, List.take_append_drop]
theorem ins_get (ys : List Int) (k j : Nat) (h : Int) (hj : j + 1 ≤ k) (hk : k < ys.length) : geti (ins ys k (j + 1) h) j = geti ys j := by
  unfold geti ins
  rw [List.getD_eq_getElem?_getD, List.getD_eq_getElem?_getD, List.getElem?_append_left (by simp; omega), List.getElem?_take, if_pos (by omega)]
theorem ins_step (ys : List Int) (k j : Nat) (h : Int) (hj : j + 1 ≤ k) (hk : k < ys.length) : (ins ys k (j + 1) h).set (j + 1) (geti ys j) = ins ys k j (geti ys j) := by
  have hjl : j < ys.length := by omega
  have e2 : geti ys j = ys[j] := by simp [geti, List.getD_eq_getElem?_getD, List.getElem?_eq_getElem hjl]
  unfold ins
  rw [List.set_append_right _ _ (by simp; omega)]
  have e1 : j + 1 - (ys.take (j + 1)).length = 0 := by simp; omega
  rw [e1, List.set_cons_zero, e2]
  have e3 : (ys.take k).drop j = ys[j] :: (ys.take k).drop (j + 1) := by
    rw [List.drop_eq_getElem_cons (by simp; omega)]
    simp
  rw [e3, List.take_succ_eq_append_getElem hjl]
  simp only [List.append_assoc, List.cons_append, List.nil_append]
theorem ins_end (ys : List Int) (k j : Nat) (h e : Int) (hj : j ≤ k) (hk : k < ys.length) : (ins ys k j h).set j e = ins ys k j e := by
  unfold ins
  rw [List.set_append_right _ _ (by simp; omega)]
  have e1 : j - (ys.take j).length = 0 := by simp; omega
  rw [e1, List.set_cons_zero]
theorem ins_perm (ys : List Int) (k j : Nat) (hj : j ≤ k) (hk : k < ys.length) : (ins ys k j (geti ys k)).Perm ys := by
  have h1 : (ins ys k j (geti ys k)).Perm (ins ys k k (geti ys k)) := by
    unfold ins
    have e : (ys.take k).drop k = [] := List.drop_of_length_le (by simp; omega)
    rw [e, List.nil_append]
    have e2 : ys.take k = ys.take j ++ (ys.take k).drop j := by
      have := List.take_append_drop j (ys.take k)
      rw [List.take_take, Nat.min_eq_left hj] at this
      exact this.symm
    rw [e2]
    have e3 : (ys.take j ++ (ys.take k).drop j).drop j = (ys.take k).drop j := by
      rw [← e2]
    rw [e3, List.append_assoc]
    refine List.Perm.append_left _ ?_
    exact (List.perm_middle (l₁ := (ys.take k).drop j) (l₂ := ys.drop (k + 1))).symm
  rw [ins_start ys k hk] at h1
  exact h1
/-- Sorted, least first. -/
def Srt (l : List Int) : Prop := l.Pairwise (· ≤ ·)
theorem srt_get {l : List Int} (h : Srt l) (i j : Nat) (hij : i ≤ j) (hj : j < l.length) : geti l i ≤ geti l j := by
  unfold geti
  rw [List.getD_eq_getElem?_getD, List.getD_eq_getElem?_getD, List.getElem?_eq_getElem (by omega), List.getElem?_eq_getElem hj]
  simp only [Option.getD_some]
  rcases Nat.lt_or_eq_of_le hij with e | rfl
  · exact List.pairwise_iff_getElem.1 h i j (by omega) hj e
  · exact Int.le_refl _
theorem mem_geti {l : List Int} {x : Int} (h : x ∈ l) : ∃ i, i < l.length ∧ x = geti l i := by
  obtain ⟨i, hi, rfl⟩ := List.getElem_of_mem h
  exact ⟨i, hi, by simp [geti, List.getD_eq_getElem?_getD, List.getElem?_eq_getElem hi]⟩
theorem geti_take {l : List Int} {k i : Nat} (h : i < k) : geti (l.take k) i = geti l i := by
  unfold geti
  rw [List.getD_eq_getElem?_getD, List.getD_eq_getElem?_getD, List.getElem?_take, if_pos h]
theorem ins_srt (ys : List Int) (k j : Nat) (hj : j ≤ k) (hk : k < ys.length) (hs : Srt (ys.take k)) (hgt : ∀ i, j ≤ i → i < k → geti ys k < geti ys i) (hle : j = 0 ∨ geti ys (j - 1) ≤ geti ys k) :
    Srt ((ins ys k j (geti ys k)).take (k + 1)) := by
  have hlen : (ys.take k).length = k := by simp; omega
  have e : (ins ys k j (geti ys k)).take (k + 1) = ys.take j ++ geti ys k :: (ys.take k).drop j := by
    unfold ins
    have e0 : (ys.take j ++ geti ys k :: ((ys.take k).drop j ++ ys.drop (k + 1))) = (ys.take j ++ geti ys k :: (ys.take k).drop j) ++ ys.drop (k + 1) := by simp
    rw [e0]
    exact List.take_left' (by simp; omega)
  rw [e]
  unfold Srt at hs ⊢
  have hsj : (ys.take j).Pairwise (· ≤ ·) := by
    have := hs.sublist (List.take_sublist j (ys.take k))
    rwa [List.take_take, Nat.min_eq_left hj] at this
  have hlow : ∀ x ∈ ys.take j, x ≤ geti ys k := fun x hx => by
    obtain ⟨i, hi, rfl⟩ := mem_geti hx
    have hij : i < j := by simp at hi; omega
    rcases hle with h0 | h0
    · omega
    · rw [geti_take hij]
      have := srt_get (l := ys.take k) hs i (j - 1) (by omega) (by omega)
      rw [geti_take (by omega), geti_take (by omega)] at this
      omega
  have hhigh : ∀ x ∈ (ys.take k).drop j, geti ys k < x := fun x hx => by
    obtain ⟨i, hi, rfl⟩ := List.getElem_of_mem hx
    have hi' : i < k - j := by simp at hi; omega
    have := hgt (j + i) (by omega) (by omega)
    rw [List.getElem_drop, List.getElem_take]
    simpa [geti, List.getD_eq_getElem?_getD, List.getElem?_eq_getElem (show j + i < ys.length by omega)] using this
  rw [List.pairwise_append]
  refine ⟨hsj, ?_, ?_⟩
  · rw [List.pairwise_cons]
    exact ⟨fun x hx => Int.le_of_lt (hhigh x hx), hs.sublist (List.drop_sublist j _)⟩
  · intro a ha b hb
    rcases List.mem_cons.1 hb with rfl | hb
    · exact hlow a ha
    · have := hlow a ha
      have := hhigh b hb
      omega
theorem set_alloc_drewN (w : World) (A : Array Value) (t : TypeId) (j nq : Nat) (v : Value) : ((w.alloc (.cells A t)).drewN nq).setCell ⟨w.heap.size, j, none⟩ v = (w.alloc (.cells (A.setIfInBounds j v) t)).drewN nq := by
  show ((w.alloc (.cells A t)).setCell ⟨w.heap.size, j, none⟩ v).drewN nq = _
  rw [World.setCell_alloc_at _ _ _ _ _ rfl]
/-- What the sorted copy leaves. -/
def SortedPost (zs : List Int) (w : World) (e : Ending) (w' : World) : Prop :=
  ∃ L : List Int, L.Perm zs ∧ Srt L ∧ e = .returned (.slice (some ⟨w.heap.size, 0, none⟩) zs.length zs.length) ∧ ∃ nq, w' = (w.alloc (.cells (intsArr L) 3)).drewN nq
theorem srt_one (l : List Int) : Srt (l.take 1) := by
  unfold Srt
  match l with
  | [] => simp
  | x :: l => simp
set_option maxRecDepth 100000 in
set_option maxHeartbeats 1600000 in
theorem sortedCopy_any (ao : Option Addr) (cap : Nat) (zs : List Int) (w : World) (hlen : zs.length ≤ 1048576) (hs : IntsArg w ao cap zs) :
    Calls Tryz.prog 30 #[.slice ao zs.length cap] w (SortedPost zs w) := by
  have hmk := makeInts_any w zs.length zs rfl hlen
  have Hs := Lib.hid hs.at'
  have HF := Lib.hid (copied_full zs)
  have HP : Hid (∀ (L : List Int) (nq : Nat), L.Perm zs → Srt L → SortedPost zs w (.returned (.slice (some ⟨w.heap.size, 0, none⟩) zs.length zs.length)) ((w.alloc (.cells (intsArr L) 3)).drewN nq)) := Lib.hid fun L nq h1 h2 => ⟨L, h1, h2, rfl, nq, rfl⟩
  clear hs
  generalize hn : zs.length = n at *
  have Hz := Lib.hid hn
  clear hn
  go_enter Tryz.func30, Tryz.ntmps30
  go_wp2
  go_loopw [4] (fun i wr => ∃ k : Nat, k ≤ n ∧ i = .int .i64 k ∧ wr = w.alloc (.cells (copied zs k) 3)) (fun i _ => n - (intOf i).toNat)
  case atStart => exact ⟨0, Nat.zero_le _, rfl, rfl⟩
  case round =>
    obtain ⟨k, hk, rfl, rfl⟩ := hrel
    by_cases hlt : k < n
    · obtain ⟨b, off, hao, hc⟩ := Hs.out k (by first | exact hlt | (rw [Hz.out]; exact hlt))
      cases hao
      have hb : b < w.heap.size := World.block_lt_of_cell? _ _ hc
      have hset := copied_set zs k (by rw [Hz.out]; exact hlt)
      have hget := copied_get zs k (by rw [Hz.out]; exact hlt)
      clear hmk
      go_wp2
      go_roundw
      case rel => exact ⟨k + 1, by omega, by go_num, rfl⟩
      case measure => simp [intOf]; omega
    · obtain rfl : k = n := by omega
      clear hmk
      rw [HF.out]
      go_wp2
      go_loopw [5, 6, 7] (fun i _ _ wr => ∃ (q : Nat) (ys : List Int) (nq : Nat), 1 ≤ q ∧ (q ≤ k ∨ q = 1) ∧ i = .int .i64 q ∧ Hid (ys.length = k ∧ ys.Perm zs ∧ Srt (ys.take q)) ∧ wr = (w.alloc (.cells (intsArr ys) 3)).drewN nq) (fun i _ _ _ => k + 1 - (intOf i).toNat)
      case atStart => exact ⟨1, zs, 0, Nat.le_refl _, Or.inr rfl, rfl, Lib.hid ⟨Hz.out, List.Perm.refl _, srt_one _⟩, rfl⟩
      case round =>
        obtain ⟨q, ys, nq, hq1, hq2, rfl, HY, rfl⟩ := hrel
        by_cases hqk : q < k
        · have hget := intsArr_get ys q (by have := HY.out.1; omega)
          have HST := Lib.hid (ins_start ys q (by have := HY.out.1; omega))
          go_wp2
          clear hget
          go_loopw [7] (fun j wr => ∃ (p : Nat) (h : Int) (nq : Nat), p ≤ q ∧ j = .int .i64 p ∧ Hid (∀ i, p ≤ i → i < q → geti ys q < geti ys i) ∧ wr = (w.alloc (.cells (intsArr (ins ys q p h)) 3)).drewN nq) (fun j _ => (intOf j).toNat)
          case atStart => exact ⟨q, geti ys q, nq, Nat.le_refl _, rfl, Lib.hid (fun i h1 h2 => by omega), by rw [HST.out]⟩
          case round =>
            obtain ⟨p, h, nq, hpq, rfl, HG, rfl⟩ := hrel
            have hil : (ins ys q p h).length = k := by rw [ins_length ys q p h (by have := HY.out.1; omega) hpq]; exact HY.out.1
            by_cases hp : 0 < p
            · obtain ⟨j, rfl⟩ : ∃ j, p = j + 1 := ⟨p - 1, by omega⟩
              have hgj := intsArr_get (ins ys q (j + 1) h) j (by omega)
              rw [ins_get ys q j h hpq (by have := HY.out.1; omega)] at hgj
              have hcur := intsArr_get (ins ys q (j + 1) h) (j + 1) (by omega)
              have hst := intsArr_set (ins ys q (j + 1) h) (j + 1) (geti ys j)
              rw [ins_step ys q j h hpq (by have := HY.out.1; omega)] at hst
              have hen := intsArr_set (ins ys q (j + 1) h) (j + 1) (geti ys q)
              rw [ins_end ys q (j + 1) h _ hpq (by have := HY.out.1; omega)] at hen
              clear hil
              by_cases hgt : geti ys q < geti ys j
              · have HX := Lib.hid (show ∀ i, j ≤ i → i < q → geti ys q < geti ys i from fun i h1 h2 => by
                  by_cases e : i = j
                  · rw [e]; exact hgt
                  · exact HG.out i (by omega) h2)
                go_wp2
                go_roundw
                case rel => exact ⟨j, geti ys j, nq, by omega, by go_num, HX, by rw [set_alloc_drewN, hst]⟩
                case measure => simp [intOf]
              · have HL := Lib.hid (show j + 1 = 0 ∨ geti ys (j + 1 - 1) ≤ geti ys q from Or.inr (by show geti ys j ≤ _; omega))
                go_wp2
                go_roundw
                case rel => exact ⟨q + 1, ins ys q (j + 1) (geti ys q), nq, by omega, Or.inl (by omega), by go_num, Lib.hid (by
                  obtain ⟨y1, y2, y3⟩ := HY.out
                  exact ⟨by rw [ins_length _ _ _ _ (by omega) hpq]; exact y1, (ins_perm ys q (j + 1) hpq (by omega)).trans y2, ins_srt ys q (j + 1) hpq (by omega) y3 HG.out HL.out⟩), by rw [set_alloc_drewN, hen]⟩
                case measure => simp [intOf]; omega
            · obtain rfl : p = 0 := by omega
              have hcur := intsArr_get (ins ys q 0 h) 0 (by omega)
              have hen := intsArr_set (ins ys q 0 h) 0 (geti ys q)
              rw [ins_end ys q 0 h _ hpq (by have := HY.out.1; omega)] at hen
              clear hil
              go_wp2
              go_roundw
              case rel => exact ⟨q + 1, ins ys q 0 (geti ys q), nq, by omega, Or.inl (by omega), by go_num, Lib.hid (by
                obtain ⟨y1, y2, y3⟩ := HY.out
                exact ⟨by rw [ins_length _ _ _ _ (by omega) hpq]; exact y1, (ins_perm ys q 0 hpq (by omega)).trans y2, ins_srt ys q 0 hpq (by omega) y3 HG.out (Or.inl rfl)⟩), by rw [set_alloc_drewN, hen]⟩
              case measure => simp [intOf]; omega
        · have HX := Lib.hid (show Srt ys from by
            obtain ⟨y1, y2, y3⟩ := HY.out
            rwa [List.take_of_length_le (by omega)] at y3)
          go_wp2
          go_ret
          exact HP.out ys nq HY.out.2.1 HX.out
theorem contains_of (l : List Int) (e : Int) (lo : Nat) (h1 : ∀ i, i < lo → geti l i < e) (h2 : ∀ i, lo ≤ i → i < l.length → e ≤ geti l i) (hs : Srt l) :
    l.contains e = decide (lo < l.length ∧ geti l lo = e) := by
  by_cases h : lo < l.length ∧ geti l lo = e
  · rw [decide_eq_true h]
    obtain ⟨h3, h4⟩ := h
    rw [List.contains_iff_mem]
    rw [← h4]
    simp [geti, List.getD_eq_getElem?_getD, List.getElem?_eq_getElem h3]
  · rw [decide_eq_false h]
    rw [Bool.eq_false_iff]
    intro hc
    obtain ⟨i, hi, hx⟩ := mem_geti (List.contains_iff_mem.1 hc)
    have a1 : lo ≤ i := by
      rcases Nat.lt_or_ge i lo with x | x
      · have := h1 i x; omega
      · exact x
    have a2 := srt_get hs lo i a1 hi
    have a3 := h2 lo (Nat.le_refl _) (by omega)
    exact h ⟨by omega, by omega⟩
set_option maxRecDepth 100000 in
set_option maxHeartbeats 800000 in
theorem member_any (b : Nat) (l : List Int) (n : Nat) (e : Int) (w : World) (hn : l.length = n) (hlen : n ≤ 1048576) (hs : Srt l) (hc : ∀ k, k < n → w.cell? ⟨b, 0 + k, none⟩ = some (.int .i64 (geti l k))) :
    Calls Tryz.prog 31 #[.slice (some ⟨b, 0, none⟩) n n, .int .i64 e] w (RetD (.bool (l.contains e)) w) := by
  have HC := Lib.hid hc
  have HS := Lib.hid hs
  have HN := Lib.hid hn
  clear hc hs hn
  go_enter Tryz.func31, Tryz.ntmps31
  go_wp2
  go_loopw [5, 6, 7] (fun lo hi _ wr => ∃ (p q nq : Nat), p ≤ q ∧ q ≤ n ∧ lo = .int .i64 p ∧ hi = .int .i64 q ∧ Hid (∀ i, i < p → geti l i < e) ∧ Hid (∀ i, q ≤ i → i < n → e ≤ geti l i) ∧ wr = w.drewN nq) (fun lo hi _ _ => (intOf hi).toNat - (intOf lo).toNat)
  case atStart => exact ⟨0, n, 0, Nat.zero_le _, Nat.le_refl _, rfl, rfl, Lib.hid (fun i h => by omega), Lib.hid (fun i h1 h2 => by omega), rfl⟩
  case round =>
    obtain ⟨p, q, nq, h1, h2, rfl, rfl, H3, H4, rfl⟩ := hrel
    by_cases hpq : p < q
    · obtain ⟨m, hm⟩ : ∃ m, m = p + (q - p) / 2 := ⟨_, rfl⟩
      have hmi : (p : Int) + ((q : Int) - p) / 2 = (m : Int) := by omega
      have hm1 : p ≤ m := by omega
      have hm2 : m < q := by omega
      clear hm
      have hcm : w.cell? ⟨b, m, none⟩ = some (.int .i64 (geti l m)) := by simpa using HC.out m (by omega)
      by_cases hlt : geti l m < e
      · have HX := Lib.hid (show ∀ i, i < m + 1 → geti l i < e from fun i hi => by
          have := srt_get HS.out i m (by omega) (by rw [HN.out]; omega)
          omega)
        go_wp2
        go_roundw
        case rel => exact ⟨m + 1, q, _, by omega, by omega, by go_num, rfl, HX, H4, rfl⟩
        case measure => simp [intOf]; omega
      · have HX := Lib.hid (show ∀ i, m ≤ i → i < n → e ≤ geti l i from fun i hi hi2 => by
          have := srt_get HS.out m i (by omega) (by rw [HN.out]; omega)
          omega)
        go_wp2
        go_roundw
        case rel => exact ⟨p, m, _, by omega, by omega, rfl, by go_num, H3, HX, rfl⟩
        case measure => simp [intOf]; omega
    · obtain rfl : p = q := by omega
      have HR := Lib.hid (contains_of l e p H3.out (fun i a c => H4.out i a (by rw [HN.out] at c; exact c)) HS.out)
      by_cases hpn : p < n
      · have hcp : w.cell? ⟨b, p, none⟩ = some (.int .i64 (geti l p)) := by simpa using HC.out p hpn
        by_cases hpe : geti l p = e
        · have HE := Lib.hid (show l.contains e = true from by rw [HR.out, HN.out]; exact decide_eq_true ⟨hpn, hpe⟩)
          have hb : (geti l p == e) = true := by simpa using hpe
          clear hpe HR
          go_wp2
          go_ret
          exact ⟨by rw [HE.out]; rfl, _, rfl⟩
        · have HE := Lib.hid (show l.contains e = false from by rw [HR.out, HN.out]; exact decide_eq_false (fun h => hpe h.2))
          have hb : (geti l p == e) = false := by simpa using hpe
          clear hpe HR
          go_wp2
          go_ret
          exact ⟨by rw [HE.out]; rfl, _, rfl⟩
      · have HE := Lib.hid (show l.contains e = false from by rw [HR.out, HN.out]; exact decide_eq_false (fun h => hpn h.1))
        clear HR
        go_wp2
        go_ret
        exact ⟨by rw [HE.out]; rfl, _, rfl⟩
end Go.Proofs.YtlhkbdeceogjgaaGreatDoor
