/- Undoing the escape, as a plain relation: what has been read back, and what is still to be read. Conditions: none. -/
import Derived.Test.YtlhndkonhjjcgaaGreatFmtEsc
namespace Go.Proofs.YtlhndkonhjjcgaaGreatFmt
open Go.RowKit Go
/-- Everything from place i on is well-formed. -/
def okF (s : ByteArray) : Nat → Nat → Bool
  | 0, _ => true
  | f + 1, i => if i < s.size then (if (s.get! i).toNat < 128 then okF s f (i + 1) else if wid s i = 1 then false else okF s f (i + wid s i)) else true
def okAt (s : ByteArray) (i : Nat) : Bool := okF s (s.size - i) i
theorem okF_out (s : ByteArray) (f i : Nat) (h : ¬ i < s.size) : okF s f i = true := by
  cases f with
  | zero => rfl
  | succ f => rw [okF, if_neg h]
theorem okF_same (s : ByteArray) : ∀ (f g i : Nat), s.size - i ≤ f → s.size - i ≤ g → okF s f i = okF s g i := by
  intro f
  induction f with
  | zero => intro g i h1 h2; rw [okF_out s 0 i (by omega), okF_out s g i (by omega)]
  | succ f ih =>
    intro g i h1 h2
    by_cases hi : i < s.size
    · obtain ⟨g', rfl⟩ : ∃ g', g = g' + 1 := ⟨g - 1, by omega⟩
      rw [okF, okF, if_pos hi, if_pos hi]
      by_cases hb : (s.get! i).toNat < 128
      · rw [if_pos hb, if_pos hb, ih g' (i + 1) (by omega) (by omega)]
      · rw [if_neg hb, if_neg hb]
        by_cases hw : wid s i = 1
        · rw [if_pos hw, if_pos hw]
        · rw [if_neg hw, if_neg hw]
          rcases wid_cases s i hi (by omega) with ⟨h3, _⟩ | ⟨h3, h4, h5⟩
          · exact absurd h3 hw
          · rw [ih g' (i + wid s i) (by omega) (by omega)]
    · rw [okF_out s _ i hi, okF_out s _ i hi]
theorem okAt_ascii (s : ByteArray) (i : Nat) (h : i < s.size) (hb : (s.get! i).toNat < 128) : okAt s i = okAt s (i + 1) := by
  unfold okAt
  obtain ⟨g, hg⟩ : ∃ g, s.size - i = g + 1 := ⟨s.size - i - 1, by omega⟩
  rw [hg, okF, if_pos h, if_pos hb, show s.size - (i + 1) = g from by omega]
theorem okAt_bad (s : ByteArray) (i : Nat) (h : i < s.size) (hb : 128 ≤ (s.get! i).toNat) (hw : wid s i = 1) : okAt s i = false := by
  unfold okAt
  obtain ⟨g, hg⟩ : ∃ g, s.size - i = g + 1 := ⟨s.size - i - 1, by omega⟩
  rw [hg, okF, if_pos h, if_neg (by omega), if_pos hw]
theorem okAt_good (s : ByteArray) (i : Nat) (h : i < s.size) (hb : 128 ≤ (s.get! i).toNat) (hw : wid s i ≠ 1) : okAt s i = okAt s (i + wid s i) := by
  rcases wid_cases s i h hb with ⟨h3, _⟩ | ⟨h3, h4, h5⟩
  · exact absurd h3 hw
  · obtain ⟨g, hg⟩ : ∃ g, s.size - i = g + 1 := ⟨s.size - i - 1, by omega⟩
    unfold okAt
    rw [hg, okF, if_pos h, if_neg (by omega), if_neg hw, okF_same s g (s.size - (i + wid s i)) _ (by omega) (Nat.le_refl _)]
/-- The bytes of a well-formed sequence of more than one byte. -/
theorem decodeN_high (n b0 b1 b2 b3 : Nat) (hb : 128 ≤ b0) (h : 2 ≤ (Lib.decodeN n b0 b1 b2 b3).2) : 128 ≤ b1 ∧ (3 ≤ (Lib.decodeN n b0 b1 b2 b3).2 → 128 ≤ b2) ∧ (4 ≤ (Lib.decodeN n b0 b1 b2 b3).2 → 128 ≤ b3) := by
  revert h
  unfold Lib.decodeN
  repeat' split
  all_goals (intro h; simp only at h ⊢; omega)
theorem wid_high (s : ByteArray) (i : Nat) (hb : 128 ≤ (s.get! i).toNat) (hw : 2 ≤ wid s i) (h4 : wid s i ≤ 4) (j : Nat) (hj : j < wid s i) : 128 ≤ (s.get! (i + j)).toNat := by
  unfold wid at *
  rw [Lib.decode_at] at hw hj h4
  have := decodeN_high (s.size - i) (s.get! i).toNat (s.get! (i + 1)).toNat (s.get! (i + 2)).toNat (s.get! (i + 3)).toNat hb hw
  have h0 : j = 0 ∨ j = 1 ∨ j = 2 ∨ j = 3 := by omega
  rcases h0 with rfl | rfl | rfl | rfl
  · exact hb
  · exact this.1
  · exact this.2.1 (by omega)
  · exact this.2.2 (by omega)
/-- j bytes are read back; up to m they stand as they are; what stands from place i of the text on. -/
structure Unq (s : ByteArray) (i j m : Nat) : Prop where
  jm : j ≤ m
  ms : m ≤ s.size
  rest : (quo s).drop i = sub s j m ++ escAt s m ++ [34]
  high : ∀ x, j ≤ x → x < m → 128 ≤ (s.get! x).toNat
  ok : okAt s m = true
  il : i ≤ (quo s).length
theorem unq_start (s : ByteArray) (h : okAt s 0 = true) : Unq s 1 0 0 := ⟨Nat.le_refl _, Nat.zero_le _, by rw [sub_self]; unfold quo; simp, fun x h1 h2 => by omega, h, by unfold quo; simp⟩
theorem drop_more {l a b : List UInt8} {i : Nat} (h : l.drop i = a ++ b) : l.drop (i + a.length) = b := by
  rw [← List.drop_drop, h, List.drop_left]
theorem drop_get {l a b : List UInt8} {i : Nat} (h : l.drop i = a ++ b) (k : Nat) (hk : k < a.length) : ∃ h2 : i + k < l.length, l[i + k] = a[k] := by
  have e : (l.drop i)[k]? = some a[k] := by rw [h, List.getElem?_append_left hk, List.getElem?_eq_getElem hk]
  rw [List.getElem?_drop] at e
  obtain ⟨h2, h3⟩ := List.getElem?_eq_some_iff.1 e
  exact ⟨h2, h3⟩
theorem unq_len {s : ByteArray} {i j m : Nat} (h : Unq s i j m) : i + ((m - j) + (escAt s m).length + 1) = (quo s).length := by
  have e := congrArg List.length h.rest
  have := sub_len s j m h.jm h.ms
  have := h.il
  simp only [List.length_drop, List.length_append, List.length_cons, List.length_nil] at e
  omega
/-- A byte that stands as it is. -/
theorem unq_copy {s : ByteArray} {i j m : Nat} (h : Unq s i j m) (hj : j < m) : ∃ h2 : i < (quo s).length, (quo s)[i] = s.get! j ∧ 128 ≤ (s.get! j).toNat ∧ i + 1 < (quo s).length ∧ Unq s (i + 1) (j + 1) m := by
  have hl := unq_len h
  have hms := h.ms
  have e : (quo s).drop i = [s.get! j] ++ (sub s (j + 1) m ++ escAt s m ++ [34]) := by
    rw [h.rest, ← sub_app s j (j + 1) m (by omega) (by omega), sub_one s j (by omega)]
    simp
  obtain ⟨h2, h3⟩ := drop_get e 0 (by simp)
  refine ⟨h2, h3, h.high j (Nat.le_refl _) hj, by omega, ⟨by omega, h.ms, drop_more e, fun x h1 h4 => h.high x (by omega) h4, h.ok, by omega⟩⟩
/-- An escape below 128 is read. -/
theorem unq_esc {s : ByteArray} {i m : Nat} (h : Unq s i m m) (hm : m < s.size) (hb : (s.get! m).toNat < 128) (news : List UInt8) (he : escB (s.get! m) = news) :
    (∀ k (hk : k < news.length), ∃ h2 : i + k < (quo s).length, (quo s)[i + k] = news[k]) ∧ i + news.length < (quo s).length ∧ Unq s (i + news.length) (m + 1) (m + 1) := by
  have hl := unq_len h
  have e : (quo s).drop i = news ++ (escAt s (m + 1) ++ [34]) := by
    rw [h.rest, sub_self, escAt_ascii s m hm hb, he]
    simp
  have e2 := congrArg List.length e
  simp only [List.length_drop, List.length_append, List.length_cons, List.length_nil] at e2
  refine ⟨fun k hk => drop_get e k hk, by omega, ⟨Nat.le_refl _, by omega, ?_, fun x h1 h4 => by omega, by rw [← okAt_ascii s m hm hb]; exact h.ok, by omega⟩⟩
  rw [sub_self, List.nil_append]
  exact drop_more e
/-- A sequence of more than one byte comes next. -/
theorem unq_open {s : ByteArray} {i m : Nat} (h : Unq s i m m) (hm : m < s.size) (hb : 128 ≤ (s.get! m).toNat) : 2 ≤ wid s m ∧ m + wid s m ≤ s.size ∧ Unq s i m (m + wid s m) := by
  rcases wid_cases s m hm hb with ⟨h3, _⟩ | ⟨h3, h4, h5⟩
  · have := h.ok
    rw [okAt_bad s m hm hb h3] at this
    cases this
  · refine ⟨h3, h5, ⟨by omega, h5, ?_, fun x h1 h2 => ?_, by rw [← okAt_good s m hm hb (by omega)]; exact h.ok, h.il⟩⟩
    · rw [h.rest, sub_self, escAt_good s m hm hb (by omega)]
      simp
    · have := wid_high s m hb h3 h4 (x - m) (by omega)
      rwa [show m + (x - m) = x from by omega] at this
/-- Nothing is left but the last quote. -/
theorem unq_done {s : ByteArray} {i : Nat} (h : Unq s i s.size s.size) : i + 1 = (quo s).length := by
  have := unq_len h
  rw [escAt_end] at this
  simp at this
  omega
theorem take_next (s : ByteArray) (j : Nat) (h : j < s.size) : sub s 0 j ++ [s.get! j] = sub s 0 (j + 1) := by
  rw [← sub_one s j h]
  exact sub_app s 0 j (j + 1) (by omega) (by omega)
theorem sub_all (s : ByteArray) : sub s 0 s.size = s.data.toList := by
  rw [sub_eq, List.drop_zero, Nat.sub_zero, List.take_of_length_le (by rw [← Lib.size_eq]; exact Nat.le_refl _)]
end Go.Proofs.YtlhndkonhjjcgaaGreatFmt
