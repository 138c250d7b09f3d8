/- Rows as functions of the place; one step of an insertion sort. Conditions: none. -/
import Derived.Test.YtdkccihoecpcaaaGreatFmtObjP
import Derived.Test.YtdkccihoecpcaaaGreatFmtApp
namespace Go.Proofs.YtdkccihoecpcaaaGreatFmt
open Go
def rowF (f : Nat → Value) (n : Nat) : Array Value := ((List.range n).map f).toArray
theorem rowF_size (f : Nat → Value) (n : Nat) : (rowF f n).size = n := by simp [rowF]
theorem rowF_get (f : Nat → Value) (n i : Nat) (h : i < n) : (rowF f n)[i]? = some (f i) := by simp [rowF, h]
theorem rowF_congr {f g : Nat → Value} {n : Nat} (h : ∀ i, i < n → f i = g i) : rowF f n = rowF g n := by
  unfold rowF
  congr 1
  apply List.map_congr_left
  intro i hi
  exact h i (List.mem_range.1 hi)
theorem rowF_ext {cur : Array Value} {f : Nat → Value} {n : Nat} (hs : cur.size = n) (h : ∀ i, i < n → cur[i]? = some (f i)) : cur = rowF f n := by
  apply Array.ext_getElem?
  intro i
  by_cases hi : i < n
  · rw [h i hi, rowF_get _ _ _ hi]
  · rw [Array.getElem?_eq_none (by omega), Array.getElem?_eq_none (by rw [rowF_size]; omega)]
theorem rowF_set (f : Nat → Value) (n i : Nat) (v : Value) : (rowF f n).setIfInBounds i v = rowF (fun j => if j = i then v else f j) n := by
  refine rowF_ext (by simp [rowF_size]) fun j hj => ?_
  rw [Array.getElem?_setIfInBounds, rowF_get _ _ _ hj, rowF_size]
  by_cases e : i = j
  · subst e
    simp [hj]
  · rw [if_neg e, if_neg (fun h => e h.symm)]
theorem rowF_put (f : Nat → Value) (n i : Nat) (v : Value) (h : i < n) : putAt (rowF f n) i [v] = rowF (fun j => if j = i then v else f j) n := by
  rw [← rowF_set]
  apply Array.ext'
  simp only [putAt, List.length_singleton]
  rw [Array.toList_setIfInBounds]
  have hl : i < (rowF f n).toList.length := by rw [Array.length_toList, rowF_size]; exact h
  rw [List.set_eq_take_append_cons_drop, if_pos hl, List.append_assoc]
  rfl
theorem madeF (z : Value) (n : Nat) : madeCells #[z] (n * 1) = rowF (fun _ => z) n := by
  refine rowF_ext (by simp [madeCells]) fun i hi => ?_
  simp [madeCells, Nat.mod_one, hi]
def uF (L : List (ByteArray × Nat)) (i : Nat) : Value := .string (nth L i).1
def vF (L : List (ByteArray × Nat)) (i : Nat) : Value := .int .i64 ((nth L i).2 : Int)
theorem nth_nil (i : Nat) : nth [] i = (ByteArray.empty, 0) := by simp [nth]
theorem nth_app (L : List (ByteArray × Nat)) (p : ByteArray × Nat) (j : Nat) : nth (L ++ [p]) j = if j = L.length then p else nth L j := by
  unfold nth
  simp only [List.getD_eq_getElem?_getD]
  by_cases h : j = L.length
  · subst h
    simp
  · rw [if_neg h]
    by_cases h2 : j < L.length
    · rw [List.getElem?_append_left h2]
    · rw [List.getElem?_eq_none (by simp; omega), List.getElem?_eq_none (by omega)]
theorem nth_get {L : List (ByteArray × Nat)} {j : Nat} (h : j < L.length) : nth L j = L[j] := by simp [nth, List.getD_eq_getElem?_getD, h]
/-- The key stands at place j: its place is renewed. -/
theorem nth_upd {L : List (ByteArray × Nat)} (ha : Apart L) {j : Nat} (hj : j < L.length) {x : ByteArray} (hx : (nth L j).1 = x) (k i : Nat) : nth (upd L x k) i = if i = j then (x, k) else nth L i := by
  have hex : ∃ p ∈ L, p.1 = x := ⟨_, nth_mem hj, hx⟩
  unfold upd
  rw [if_pos hex]
  by_cases h : i < L.length
  · rw [nth_get (by simpa using h), List.getElem_map]
    by_cases e : i = j
    · subst e
      have e3 : L[i].1 = x := by rw [← nth_get h]; exact hx
      rw [if_pos rfl, if_pos e3, e3]
    · rw [if_neg e, if_neg, nth_get h]
      intro e2
      rw [nth_get hj] at hx
      unfold Apart at ha
      rcases Nat.lt_or_gt_of_ne e with h3 | h3
      · exact (List.pairwise_iff_getElem.1 ha i j h hj h3) (e2.trans hx.symm)
      · exact (List.pairwise_iff_getElem.1 ha j i hj h h3) (hx.trans e2.symm)
  · rw [if_neg (by omega)]
    unfold nth
    rw [List.getD_eq_getElem?_getD, List.getD_eq_getElem?_getD, List.getElem?_eq_none (by simp; omega), List.getElem?_eq_none (by omega)]
theorem upd_new {L : List (ByteArray × Nat)} {x : ByteArray} (h : ∀ j, j < L.length → (nth L j).1 ≠ x) (k : Nat) : upd L x k = L ++ [(x, k)] := by
  unfold upd
  rw [if_neg]
  rintro ⟨p, hp, hx⟩
  obtain ⟨i, hi, rfl⟩ := List.mem_iff_getElem.1 hp
  exact h i hi (by rw [nth_get hi]; exact hx)
theorem upd_old_len {L : List (ByteArray × Nat)} {j : Nat} (hj : j < L.length) {x : ByteArray} (hx : (nth L j).1 = x) (k : Nat) : (upd L x k).length = L.length := by
  unfold upd
  rw [if_pos ⟨_, nth_mem hj, hx⟩, List.length_map]
/-- The row while the place for T a is being sought: places up to c as they were, c to a moved on by one. -/
def shf (T : List (ByteArray × Nat)) (a c i : Nat) : ByteArray × Nat := if i ≤ c then nth T i else if i ≤ a then nth T (i - 1) else nth T i
def ins (T : List (ByteArray × Nat)) (a c : Nat) : List (ByteArray × Nat) := T.take c ++ nth T a :: ((T.take a).drop c ++ T.drop (a + 1))
theorem shf_start (T : List (ByteArray × Nat)) (a i : Nat) : shf T a a i = nth T i := by
  unfold shf
  split
  · rfl
  · rfl
theorem shf_step (T : List (ByteArray × Nat)) (a c i : Nat) (hc : c + 1 ≤ a) : (if i = c + 1 then nth T c else shf T a (c + 1) i) = shf T a c i := by
  unfold shf
  by_cases h1 : i = c + 1
  · subst h1
    rw [if_pos rfl, if_neg (by omega), if_pos hc, Nat.add_sub_cancel]
  · rw [if_neg h1]
    by_cases h2 : i ≤ c
    · rw [if_pos (by omega), if_pos h2]
    · rw [if_neg (by omega), if_neg h2]
theorem ins_len (T : List (ByteArray × Nat)) (a c : Nat) (hc : c ≤ a) (ha : a < T.length) : (ins T a c).length = T.length := by
  unfold ins
  simp only [List.length_append, List.length_cons, List.length_take, List.length_drop]
  omega
theorem nth_lt {L : List (ByteArray × Nat)} {j : Nat} (h : j < L.length) : L[j]? = some (nth L j) := by rw [nth_get h, List.getElem?_eq_getElem h]
theorem nth_of {L : List (ByteArray × Nat)} {j : Nat} {p : ByteArray × Nat} (h : L[j]? = some p) : nth L j = p := by simp [nth, List.getD_eq_getElem?_getD, h]
theorem shf_ins (T : List (ByteArray × Nat)) (a c i : Nat) (hc : c ≤ a) (ha : a < T.length) : (if i = c then nth T a else shf T a c i) = nth (ins T a c) i := by
  symm
  have hl1 : (T.take c).length = c := by rw [List.length_take]; omega
  by_cases hi : i < T.length
  · apply nth_of
    unfold ins
    by_cases h1 : i < c
    · rw [List.getElem?_append_left (by omega), List.getElem?_take, if_pos h1, if_neg (by omega)]
      unfold shf
      rw [if_pos (by omega), nth_lt hi]
    · rw [List.getElem?_append_right (by omega), hl1]
      by_cases h2 : i = c
      · subst h2
        rw [if_pos rfl, Nat.sub_self]
        rfl
      · rw [if_neg h2, show i - c = (i - c - 1) + 1 from by omega, List.getElem?_cons_succ]
        have hl2 : ((T.take a).drop c).length = a - c := by rw [List.length_drop, List.length_take]; omega
        unfold shf
        rw [if_neg (by omega)]
        by_cases h3 : i ≤ a
        · rw [if_pos h3, List.getElem?_append_left (by omega), List.getElem?_drop, List.getElem?_take, if_pos (by omega), show c + (i - c - 1) = i - 1 from by omega, nth_lt (by omega)]
        · rw [if_neg h3, List.getElem?_append_right (by omega), hl2, List.getElem?_drop, show a + 1 + (i - c - 1 - (a - c)) = i from by omega, nth_lt hi]
  · rw [if_neg (by omega)]
    unfold shf
    rw [if_neg (by omega), if_neg (by omega)]
    unfold nth
    rw [List.getD_eq_getElem?_getD, List.getD_eq_getElem?_getD, List.getElem?_eq_none (by rw [ins_len T a c hc ha]; omega), List.getElem?_eq_none (by omega)]
theorem ins_perm (T : List (ByteArray × Nat)) (a c : Nat) (hc : c ≤ a) (ha : a < T.length) : (ins T a c).Perm T := by
  have e : T = T.take c ++ ((T.take a).drop c ++ nth T a :: T.drop (a + 1)) := by
    have e1 : T.take c = (T.take a).take c := by rw [List.take_take, Nat.min_eq_left hc]
    rw [e1, ← List.append_assoc, List.take_append_drop, nth_get ha, ← List.drop_eq_getElem_cons ha, List.take_append_drop]
  unfold ins
  conv => rhs; rw [e]
  exact List.Perm.append_left _ List.perm_middle.symm
theorem rising_ins {T : List (ByteArray × Nat)} {a c : Nat} (hc : c ≤ a) (ha : a < T.length) (hr : Rising (T.take a)) (hlo : ∀ i, i < c → kLt (nth T i) (nth T a)) (hhi : ∀ i, c ≤ i → i < a → kLt (nth T a) (nth T i)) : Rising ((ins T a c).take (a + 1)) := by
  have e : (ins T a c).take (a + 1) = (T.take a).take c ++ nth T a :: (T.take a).drop c := by
    have hl : (T.take a).length = a := by rw [List.length_take]; omega
    have e1 : T.take c = (T.take a).take c := by rw [List.take_take, Nat.min_eq_left hc]
    unfold ins
    rw [e1, ← List.cons_append, ← List.append_assoc]
    rw [List.take_append_of_le_length (by simp only [List.length_append, List.length_cons, List.length_take, List.length_drop]; omega)]
    rw [List.take_of_length_le (by simp only [List.length_append, List.length_cons, List.length_take, List.length_drop]; omega)]
  rw [e]
  refine rising_insert hr (fun q hq => ?_) (fun q hq => ?_)
  · obtain ⟨i, hi, rfl⟩ := List.mem_iff_getElem.1 hq
    have hi2 : i < c ∧ i < a ∧ i < T.length := by simp only [List.length_take] at hi; omega
    rw [List.getElem_take, List.getElem_take, ← nth_get hi2.2.2]
    exact hlo i hi2.1
  · obtain ⟨i, hi, rfl⟩ := List.mem_iff_getElem.1 hq
    have hi2 : c + i < a ∧ c + i < T.length := by simp only [List.length_take, List.length_drop] at hi; omega
    rw [List.getElem_drop, List.getElem_take, ← nth_get hi2.2]
    exact hhi _ (by omega) hi2.1
/-- Where the search has stopped at a lesser key, all ahead of it are less. -/
theorem rising_below {T : List (ByteArray × Nat)} {a c : Nat} (hc : c < a) (ha : a < T.length) (hr : Rising (T.take a)) (hap : Apart T) (h : ¬ kLt (nth T a) (nth T c)) : ∀ i, i < c + 1 → kLt (nth T i) (nth T a) := by
  have hne : (nth T a).1 ≠ (nth T c).1 := by
    rw [nth_get ha, nth_get (by omega)]
    exact fun e => (List.pairwise_iff_getElem.1 hap c a (by omega) ha hc) e.symm
  have hlt := kLt_total hne h
  intro i hi
  by_cases e : i = c
  · rw [e]; exact hlt
  · refine kLt_trans ?_ hlt
    have := List.pairwise_iff_getElem.1 hr i c (by rw [List.length_take]; omega) (by rw [List.length_take]; omega) (by omega)
    rw [List.getElem_take, List.getElem_take, ← nth_get (by omega), ← nth_get (by omega)] at this
    exact this
theorem apart_perm {L T : List (ByteArray × Nat)} (h : T.Perm L) (ha : Apart L) : Apart T := (h.pairwise_iff (fun h e => h e.symm)).2 ha
end Go.Proofs.YtdkccihoecpcaaaGreatFmt
