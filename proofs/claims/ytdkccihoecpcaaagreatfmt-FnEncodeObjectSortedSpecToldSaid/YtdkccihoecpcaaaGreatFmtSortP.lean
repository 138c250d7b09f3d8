/- Keys with their last places, in the order of their first occurrence, sorted: plain lists. Conditions: none. -/
import Derived.Sort.Walk0
namespace Go.Proofs.YtdkccihoecpcaaaGreatFmt
open Go
/-- One more key at place i. -/
def upd (l : List (ByteArray × Nat)) (key : ByteArray) (i : Nat) : List (ByteArray × Nat) :=
  if ∃ p ∈ l, p.1 = key then l.map (fun p => if p.1 = key then (p.1, i) else p) else l ++ [(key, i)]
/-- The first k keys with their last places. -/
def uq (ks : List ByteArray) : Nat → List (ByteArray × Nat)
  | 0 => []
  | k + 1 => upd (uq ks k) (ks.getD k ByteArray.empty) k
/-- No key stands twice. -/
def Apart (l : List (ByteArray × Nat)) : Prop := l.Pairwise fun p q => p.1 ≠ q.1
theorem upd_keys_old {l : List (ByteArray × Nat)} {key : ByteArray} {i : Nat} (h : ∃ p ∈ l, p.1 = key) : (upd l key i).map Prod.fst = l.map Prod.fst := by
  unfold upd
  rw [if_pos h, List.map_map]
  apply List.map_congr_left
  intro p _
  simp only [Function.comp]
  split <;> rfl
theorem apart_iff {l : List (ByteArray × Nat)} : Apart l ↔ (l.map Prod.fst).Pairwise (· ≠ ·) := by
  unfold Apart
  rw [List.pairwise_map]
theorem apart_upd {l : List (ByteArray × Nat)} (h : Apart l) (key : ByteArray) (i : Nat) : Apart (upd l key i) := by
  by_cases hk : ∃ p ∈ l, p.1 = key
  · rw [apart_iff, upd_keys_old hk]
    exact apart_iff.1 h
  · unfold upd
    rw [if_neg hk]
    unfold Apart
    rw [List.pairwise_append]
    refine ⟨h, List.pairwise_singleton _ _, fun a ha b hb => ?_⟩
    rw [List.mem_singleton] at hb
    subst hb
    exact fun e => hk ⟨a, ha, e⟩
theorem apart_uq (ks : List ByteArray) : ∀ k, Apart (uq ks k)
  | 0 => List.Pairwise.nil
  | k + 1 => apart_upd (apart_uq ks k) _ _
/-- (x, i) stands among the first k keys' pairs just if i is x's last place there. -/
def LastAt (ks : List ByteArray) (k : Nat) (x : ByteArray) (i : Nat) : Prop := i < k ∧ ks.getD i ByteArray.empty = x ∧ ∀ j, i < j → j < k → ks.getD j ByteArray.empty ≠ x
theorem mem_upd {l : List (ByteArray × Nat)} {key : ByteArray} {i : Nat} {x : ByteArray} {j : Nat} : (x, j) ∈ upd l key i ↔ (x = key ∧ j = i) ∨ (x ≠ key ∧ (x, j) ∈ l) := by
  unfold upd
  split
  · rename_i h
    rw [List.mem_map]
    constructor
    · rintro ⟨p, hp, e⟩
      by_cases hk : p.1 = key
      · rw [if_pos hk] at e
        simp only [Prod.mk.injEq] at e
        exact Or.inl ⟨e.1 ▸ hk, e.2.symm⟩
      · rw [if_neg hk] at e
        subst e
        exact Or.inr ⟨hk, hp⟩
    · rintro (⟨rfl, rfl⟩ | ⟨hx, hm⟩)
      · obtain ⟨p, hp, e⟩ := h
        exact ⟨p, hp, by rw [if_pos e, e]⟩
      · exact ⟨(x, j), hm, by rw [if_neg hx]⟩
  · rename_i h
    rw [List.mem_append, List.mem_singleton, Prod.mk.injEq]
    constructor
    · rintro (hm | e)
      · exact Or.inr ⟨fun e => h ⟨(x, j), hm, e⟩, hm⟩
      · exact Or.inl e
    · rintro (e | ⟨_, hm⟩)
      · exact Or.inr e
      · exact Or.inl hm
theorem mem_uq (ks : List ByteArray) : ∀ (k : Nat) (x : ByteArray) (i : Nat), (x, i) ∈ uq ks k ↔ LastAt ks k x i
  | 0, x, i => by
    unfold uq LastAt
    simp
  | k + 1, x, i => by
    unfold uq
    rw [mem_upd, mem_uq ks k x i]
    unfold LastAt
    constructor
    · rintro (⟨rfl, rfl⟩ | ⟨hx, h1, h2, h3⟩)
      · exact ⟨Nat.lt_succ_self _, rfl, fun j h1 h2 => by omega⟩
      · refine ⟨by omega, h2, fun j h4 h5 => ?_⟩
        by_cases e : j = k
        · subst e; exact fun e => hx e.symm
        · exact h3 j h4 (by omega)
    · rintro ⟨h1, h2, h3⟩
      by_cases e : i = k
      · subst e
        exact Or.inl ⟨h2.symm, rfl⟩
      · refine Or.inr ⟨fun hx => h3 k (by omega) (by omega) hx.symm, by omega, h2, fun j h4 h5 => h3 j h4 (by omega)⟩
theorem uq_len (ks : List ByteArray) : ∀ k, (uq ks k).length ≤ k
  | 0 => Nat.le_refl _
  | k + 1 => by
    unfold uq upd
    have := uq_len ks k
    split
    · rw [List.length_map]; omega
    · rw [List.length_append, List.length_singleton]; omega
/-- The order of keys: by bytes. -/
def kLt (p q : ByteArray × Nat) : Prop := p.1.data.toList < q.1.data.toList
theorem ba_ext {a b : ByteArray} (h : a.data.toList = b.data.toList) : a = b := by
  apply ByteArray.ext
  exact Array.ext' h
theorem kLt_irrefl (p : ByteArray × Nat) : ¬ kLt p p := List.lt_irrefl _
theorem kLt_trans {p q r : ByteArray × Nat} (h : kLt p q) (k : kLt q r) : kLt p r := List.lt_trans h k
theorem kLt_total {p q : ByteArray × Nat} (hne : p.1 ≠ q.1) (h : ¬ kLt p q) : kLt q p := by
  unfold kLt at *
  have h1 : q.1.data.toList ≤ p.1.data.toList := List.not_lt.1 h
  rcases List.le_iff_lt_or_eq.1 h1 with h2 | h2
  · exact h2
  · exact absurd (ba_ext h2.symm) hne
/-- Strictly rising. -/
def Rising (l : List (ByteArray × Nat)) : Prop := l.Pairwise kLt
/-- Two rising lists with the same members are one. -/
theorem rising_unique : ∀ {l m : List (ByteArray × Nat)}, Rising l → Rising m → (∀ p, p ∈ l ↔ p ∈ m) → l = m
  | [], [], _, _, _ => rfl
  | [], b :: m, _, _, h => by have := (h b).2 (by simp); simp at this
  | a :: l, [], _, _, h => by have := (h a).1 (by simp); simp at this
  | a :: l, b :: m, h1, h2, h => by
    obtain ⟨a1, a2⟩ := List.pairwise_cons.1 h1
    obtain ⟨b1, b2⟩ := List.pairwise_cons.1 h2
    have hab : a = b := by
      rcases List.mem_cons.1 ((h a).1 (by simp)) with e | ha
      · exact e
      · rcases List.mem_cons.1 ((h b).2 (by simp)) with e | hb
        · exact e.symm
        · exact absurd (kLt_trans (a1 b hb) (b1 a ha)) (kLt_irrefl a)
    subst hab
    rw [rising_unique a2 b2 (fun p => ⟨fun hp => by
      rcases List.mem_cons.1 ((h p).1 (by simp [hp])) with e | hp'
      · exact absurd (e ▸ a1 p hp) (kLt_irrefl a)
      · exact hp', fun hp => by
      rcases List.mem_cons.1 ((h p).2 (by simp [hp])) with e | hp'
      · exact absurd (e ▸ b1 p hp) (kLt_irrefl a)
      · exact hp'⟩)]
/-- A pair laid into a rising list at the place where it belongs. -/
theorem rising_insert {S : List (ByteArray × Nat)} {p : ByteArray × Nat} {m : Nat} (hS : Rising S) (h1 : ∀ q ∈ S.take m, kLt q p) (h2 : ∀ q ∈ S.drop m, kLt p q) : Rising (S.take m ++ p :: S.drop m) := by
  unfold Rising at *
  rw [List.pairwise_append]
  refine ⟨hS.sublist (List.take_sublist _ _), List.pairwise_cons.2 ⟨h2, hS.sublist (List.drop_sublist _ _)⟩, fun a ha b hb => ?_⟩
  rcases List.mem_cons.1 hb with e | hb
  · exact e ▸ h1 a ha
  · exact kLt_trans (h1 a ha) (h2 b hb)
theorem mem_insert_at {S : List (ByteArray × Nat)} {p q : ByteArray × Nat} {m : Nat} : q ∈ S.take m ++ p :: S.drop m ↔ q = p ∨ q ∈ S := by
  rw [List.mem_append, List.mem_cons]
  constructor
  · rintro (h | h | h)
    · exact Or.inr (List.mem_of_mem_take h)
    · exact Or.inl h
    · exact Or.inr (List.mem_of_mem_drop h)
  · rintro (h | h)
    · exact Or.inr (Or.inl h)
    · rw [← List.take_append_drop m S, List.mem_append] at h
      rcases h with h | h
      · exact Or.inl h
      · exact Or.inr (Or.inr h)
/-- In a rising list, what stands ahead of a lesser one is less. -/
theorem take_lt {S : List (ByteArray × Nat)} (hS : Rising S) {m : Nat} {p : ByteArray × Nat} (hm : m < S.length) (h : kLt (S[m]'hm) p) : ∀ q ∈ S.take (m + 1), kLt q p := by
  intro q hq
  rw [List.take_succ_eq_append_getElem hm, List.mem_append, List.mem_singleton] at hq
  rcases hq with hq | rfl
  · refine kLt_trans ?_ h
    have h2 : Rising (S.take m ++ S.drop m) := by rw [List.take_append_drop]; exact hS
    unfold Rising at h2
    rw [List.pairwise_append] at h2
    exact h2.2.2 q hq _ (List.mem_iff_getElem.2 ⟨0, by rw [List.length_drop]; omega, by rw [List.getElem_drop]; simp⟩)
  · exact h
theorem drop_gt {S : List (ByteArray × Nat)} {m : Nat} {p : ByteArray × Nat} (hm : m < S.length) (h : kLt p (S[m]'hm)) (h2 : ∀ q ∈ S.drop (m + 1), kLt p q) : ∀ q ∈ S.drop m, kLt p q := by
  intro q hq
  rw [List.drop_eq_getElem_cons hm] at hq
  rcases List.mem_cons.1 hq with rfl | hq
  · exact h
  · exact h2 q hq
end Go.Proofs.YtdkccihoecpcaaaGreatFmt
