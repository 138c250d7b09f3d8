/- Where a string is cut, as a plain relation: the pieces between the places at which the divider stands. Conditions: none. -/
import Derived.Test.YtfmjeacjfnlhiaaGreatDoorSub
import Derived.Test.YtfmjeacjfnlhiaaGreatDoorEsc
namespace Go.Proofs.YtfmjeacjfnlhiaaGreatDoor
open Go.RowKit Go
theorem occ_get (s t : ByteArray) (k : Nat) (h : k + t.size ≤ s.size) (ho : occ s t k = true) (j : Nat) (hj : j < t.size) : s[k + j]'(by omega) = t[j] := by
  unfold occ at ho
  rw [Lib.occAt_iff_take _ _ _ (by simpa using h), beq_iff_eq] at ho
  have hl : j < ((s.data.toList.drop k).take t.data.toList.length).length := by simp; omega
  have hg := List.getElem_of_eq ho hl
  rw [List.getElem_take, List.getElem_drop] at hg
  exact hg
/-- The piece between two places. -/
def pc (l : ByteArray) (q : Nat × Nat) : ByteArray := l.extract q.1 q.2
/-- A piece that is as it must be: without the divider, or, where there is none, not empty. -/
def Good (l r : ByteArray) (q : Nat × Nat) : Prop := q.1 ≤ q.2 ∧ q.2 ≤ l.size ∧ (r.size ≠ 0 → ∀ j, j + r.size ≤ q.2 - q.1 → occ (pc l q) r j = false) ∧ (r.size = 0 → q.1 < q.2)
/-- The cuts so far; the next piece begins at a. -/
def Cuts (l r : ByteArray) : List (Nat × Nat) → Nat → Prop
  | [], a => a = 0
  | q :: iv, a => Good l r q ∧ a = q.2 + r.size ∧ a ≤ l.size ∧ occ l r q.2 = true ∧ Cuts l r iv q.1
/-- The pieces, from the last one back. -/
def Pcs (l r : ByteArray) (ps : List ByteArray) (a : Nat) : Prop := ∃ iv, ps = (iv.reverse).map (pc l) ∧ Cuts l r iv a
/-- The whole: the last piece ends where the string ends; and where the divider is empty all pieces end so. -/
def Whole (l r : ByteArray) (ps : List ByteArray) : Prop := ∃ iv q, ps = ((q :: iv).reverse).map (pc l) ∧ Good l r q ∧ q.2 = l.size ∧ Cuts l r iv q.1
theorem pc_size (l : ByteArray) (q : Nat × Nat) (h1 : q.1 ≤ q.2) (h2 : q.2 ≤ l.size) : (pc l q).size = q.2 - q.1 := by
  unfold pc
  rw [ByteArray.size_extract]
  omega
theorem pc_get (l : ByteArray) (q : Nat × Nat) (h1 : q.1 ≤ q.2) (h2 : q.2 ≤ l.size) (j : Nat) (hj : j < (pc l q).size) : (pc l q)[j] = l[q.1 + j]'(by rw [pc_size l q h1 h2] at hj; omega) := by
  exact ByteArray.getElem_extract ..
theorem pcs_nil (l r : ByteArray) : Pcs l r [] 0 := ⟨[], rfl, rfl⟩
theorem pcs_snoc {l r : ByteArray} {ps : List ByteArray} {a : Nat} (h : Pcs l r ps a) (b : Nat) (hg : Good l r (a, b)) (h1 : b + r.size ≤ l.size) (h2 : occ l r b = true) : Pcs l r (ps ++ [pc l (a, b)]) (b + r.size) := by
  obtain ⟨iv, rfl, hc⟩ := h
  exact ⟨(a, b) :: iv, by simp, hg, rfl, h1, h2, hc⟩
theorem whole_snoc {l r : ByteArray} {ps : List ByteArray} {a : Nat} (h : Pcs l r ps a) (hg : Good l r (a, l.size)) : Whole l r (ps ++ [pc l (a, l.size)]) := by
  obtain ⟨iv, rfl, hc⟩ := h
  exact ⟨iv, (a, l.size), by simp, hg, rfl, hc⟩
theorem whole_empty {l r : ByteArray} {ps : List ByteArray} (h : Pcs l r ps l.size) (hr : r.size = 0) (hl : l.size ≠ 0) : Whole l r ps := by
  obtain ⟨iv, rfl, hc⟩ := h
  cases iv with
  | nil => exact absurd hc hl
  | cons q iv =>
    obtain ⟨hg, ha, _, _, hc'⟩ := hc
    exact ⟨iv, q, rfl, hg, by omega, hc'⟩
def gt (L : List (Nat × Nat)) (i : Nat) : Nat × Nat := L.getD i (0, 0)
theorem gt_lt (L : List (Nat × Nat)) (q : Nat × Nat) (i : Nat) (h : i < L.length) : gt (L ++ [q]) i = gt L i := by
  simp [gt, List.getD_eq_getElem?_getD, List.getElem?_append_left h]
theorem gt_eq (L : List (Nat × Nat)) (q : Nat × Nat) : gt (L ++ [q]) L.length = q := by simp [gt, List.getD_eq_getElem?_getD]
/-- The places in the order of the string; the next piece begins at a. -/
structure Run (l r : ByteArray) (L : List (Nat × Nat)) (a : Nat) : Prop where
  good : ∀ i, i < L.length → Good l r (gt L i)
  zero : 0 < L.length → (gt L 0).1 = 0
  next : ∀ i, i + 1 < L.length → (gt L (i + 1)).1 = (gt L i).2 + r.size ∧ (gt L i).2 + r.size ≤ l.size ∧ occ l r (gt L i).2 = true
  nil : L.length = 0 → a = 0
  last : 0 < L.length → a = (gt L (L.length - 1)).2 + r.size ∧ a ≤ l.size ∧ occ l r (gt L (L.length - 1)).2 = true
/-- One more piece: where it begins, and that it is as it must be. -/
theorem run_more {l r : ByteArray} {L : List (Nat × Nat)} {q : Nat × Nat} (h : Run l r L q.1) (hg : Good l r q) :
    (∀ i, i < (L ++ [q]).length → Good l r (gt (L ++ [q]) i)) ∧ (0 < (L ++ [q]).length → (gt (L ++ [q]) 0).1 = 0) ∧
    (∀ i, i + 1 < (L ++ [q]).length → (gt (L ++ [q]) (i + 1)).1 = (gt (L ++ [q]) i).2 + r.size ∧ (gt (L ++ [q]) i).2 + r.size ≤ l.size ∧ occ l r (gt (L ++ [q]) i).2 = true) := by
  refine ⟨fun i hi => ?_, fun _ => ?_, fun i hi => ?_⟩
  · rcases Nat.lt_or_ge i L.length with h1 | h1
    · rw [gt_lt L q i h1]; exact h.good i h1
    · have : i = L.length := by simp at hi; omega
      subst this
      rw [gt_eq]; exact hg
  · rcases Nat.eq_zero_or_pos L.length with h1 | h1
    · have e := gt_eq L q
      rw [h1] at e
      rw [e]
      exact h.nil h1
    · rw [gt_lt L q 0 h1]; exact h.zero h1
  · simp only [List.length_append, List.length_cons, List.length_nil] at hi
    rcases Nat.lt_or_ge (i + 1) L.length with h1 | h1
    · rw [gt_lt L q _ h1, gt_lt L q i (by omega)]
      exact h.next i h1
    · have e : i + 1 = L.length := by omega
      have e2 : i = L.length - 1 := by omega
      have hl := h.last (by omega)
      rw [gt_lt L q i (by omega), e, gt_eq, e2]
      exact ⟨hl.1, by omega, hl.2.2⟩
theorem run_snoc {l r : ByteArray} {L : List (Nat × Nat)} {q : Nat × Nat} {a : Nat} (h : Run l r L q.1) (hg : Good l r q) (ha : a = q.2 + r.size) (h1 : a ≤ l.size) (ho : occ l r q.2 = true) : Run l r (L ++ [q]) a := by
  obtain ⟨i1, i2, i3⟩ := run_more h hg
  refine ⟨i1, i2, i3, fun e => by simp at e, fun _ => ?_⟩
  have e : (L ++ [q]).length - 1 = L.length := by simp
  rw [e, gt_eq]
  exact ⟨ha, h1, ho⟩
theorem cuts_run (l r : ByteArray) : ∀ (iv : List (Nat × Nat)) (a : Nat), Cuts l r iv a → Run l r iv.reverse a := by
  intro iv
  induction iv with
  | nil =>
    intro a h
    exact ⟨fun i h => by simp at h, fun h => by simp at h, fun i h => by simp at h, fun _ => h, fun h => by simp at h⟩
  | cons q iv ih =>
    intro a h
    obtain ⟨hg, ha, hal, ho, hc⟩ := h
    rw [List.reverse_cons]
    exact run_snoc (ih q.1 hc) hg ha hal ho
/-- What the law reads of the pieces. -/
structure At (l r : ByteArray) (ps : List ByteArray) (L : List (Nat × Nat)) : Prop where
  len : L.length = ps.length
  pos : 0 < ps.length
  piece : ∀ i (h : i < ps.length), ps[i] = pc l (gt L i)
  good : ∀ i, i < ps.length → Good l r (gt L i)
  zero : (gt L 0).1 = 0
  next : ∀ i, i + 1 < ps.length → (gt L (i + 1)).1 = (gt L i).2 + r.size ∧ (gt L i).2 + r.size ≤ l.size ∧ occ l r (gt L i).2 = true
  fin : (gt L (ps.length - 1)).2 = l.size
theorem whole_at {l r : ByteArray} {ps : List ByteArray} (h : Whole l r ps) : ∃ L, At l r ps L := by
  obtain ⟨iv, q, rfl, hg, hq, hc⟩ := h
  have hr := cuts_run l r iv q.1 hc
  rw [List.reverse_cons]
  generalize iv.reverse = L at hr ⊢
  obtain ⟨i1, i2, i3⟩ := run_more hr hg
  refine ⟨L ++ [q], ⟨by simp, by simp, fun i h => ?_, fun i _h => i1 i (by simpa using _h), i2 (by simp), fun i _h => i3 i (by simpa using _h), ?_⟩⟩
  · have h' : i < (L ++ [q]).length := by simpa using h
    simp only [List.getElem_map]
    simp only [gt, List.getD_eq_getElem?_getD, List.getElem?_eq_getElem h', Option.getD_some]
  · have e : ((L ++ [q]).map (pc l)).length - 1 = L.length := by simp
    rw [e, gt_eq]
    exact hq
/-- The rest of a string, and its pieces. -/
theorem rest_size (l : ByteArray) (a : Nat) (h : a ≤ l.size) : (l.extract a l.size).size = l.size - a := by
  rw [ByteArray.size_extract]; omega
theorem rest_piece (l : ByteArray) (a b : Nat) (h : a + b ≤ l.size) : (l.extract a l.size).extract 0 b = pc l (a, a + b) := by
  unfold pc
  rw [ByteArray.extract_extract]
  congr 1
  omega
theorem rest_rest (l : ByteArray) (a b : Nat) (_h : a + b ≤ l.size) : (l.extract a l.size).extract b (l.size - a) = l.extract (a + b) l.size := by
  rw [ByteArray.extract_extract]
  congr 1
  omega
theorem rest_occ (l r : ByteArray) (a k : Nat) (ha : a ≤ l.size) (h : k + r.size ≤ l.size - a) : occ (l.extract a l.size) r k = occ l r (a + k) := by
  have e := rest_size l a ha
  cases ho : occ l r (a + k) with
  | true =>
    refine occ_yes _ _ _ (by omega) fun j h1 h2 => ?_
    rw [ByteArray.getElem_extract]
    have := occ_get l r (a + k) (by omega) ho j h2
    rw [← this]
    congr 1
    omega
  | false =>
    cases h2 : occ (l.extract a l.size) r k with
    | false => rfl
    | true =>
      rw [← ho]
      refine (occ_yes l r (a + k) (by omega) fun j h1 h3 => ?_).symm
      have := occ_get _ r k (by omega) h2 j h3
      rw [← this, ByteArray.getElem_extract]
      congr 1
      omega
end Go.Proofs.YtfmjeacjfnlhiaaGreatDoor
