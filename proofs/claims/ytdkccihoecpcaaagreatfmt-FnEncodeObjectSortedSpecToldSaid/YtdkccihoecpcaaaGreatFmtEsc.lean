/- The escape of a string, as a plain function. Conditions: none. -/
import Derived.Lib.DecodeNEq
import Derived.Lib.RuneCountTail
import Derived.Lib.Strings
import Derived.Lib.IndexBytes
import Derived.Shelf.Unicode.DecodeAny
namespace Go.Proofs.YtdkccihoecpcaaaGreatFmt
open Go.RowKit Go
/-- The digit of a number below 16. -/
def hx (d : Nat) : UInt8 := UInt8.ofNat (if d < 10 then 48 + d else 87 + d)
/-- What stands for a byte below 128. -/
def escB (c : UInt8) : List UInt8 :=
  if c = 34 then [92, 34] else if c = 92 then [92, 92] else if c = 8 then [92, 98] else if c = 12 then [92, 102] else if c = 10 then [92, 110] else if c = 13 then [92, 114] else if c = 9 then [92, 116]
  else if c < 32 ∨ c = 127 then [92, 117, 48, 48, hx (c.toNat / 16), hx (c.toNat % 16)] else [c]
/-- The bytes of s from place a to place b. -/
def sub (s : ByteArray) (a b : Nat) : List UInt8 := (s.extract a b).data.toList
/-- The length of what stands at place i; 1 where nothing well-formed begins there. -/
def wid (s : ByteArray) (i : Nat) : Nat := (Utf8.decode s i).2
def escF (s : ByteArray) : Nat → Nat → List UInt8
  | 0, _ => []
  | f + 1, i => if i < s.size then
      (if (s.get! i).toNat < 128 then escB (s.get! i) ++ escF s f (i + 1)
       else if wid s i = 1 then [92, 117, 102, 102, 102, 100] ++ escF s f (i + 1)
       else sub s i (i + wid s i) ++ escF s f (i + wid s i))
    else []
/-- The escape of s from place i on. -/
def escAt (s : ByteArray) (i : Nat) : List UInt8 := escF s (s.size - i) i
theorem sub_eq (s : ByteArray) (a b : Nat) : sub s a b = (s.data.toList.drop a).take (b - a) := Lib.extract_data s a b
theorem sub_app (s : ByteArray) (a b c : Nat) (h1 : a ≤ b) (h2 : b ≤ c) : sub s a b ++ sub s b c = sub s a c := by
  rw [sub_eq, sub_eq, sub_eq, show c - a = (b - a) + (c - b) from by omega, List.take_add, List.drop_drop, show a + (b - a) = b from by omega]
theorem sub_self (s : ByteArray) (a : Nat) : sub s a a = [] := by rw [sub_eq, Nat.sub_self, List.take_zero]
theorem sub_len (s : ByteArray) (a b : Nat) (h1 : a ≤ b) (h2 : b ≤ s.size) : (sub s a b).length = b - a := by
  rw [sub_eq, List.length_take, List.length_drop]
  have := Lib.size_eq s
  omega
theorem get!_at (s : ByteArray) (i : Nat) (h : i < s.size) : s.get! i = s[i] := Utf8W.get!_of_lt s i h
theorem sub_one (s : ByteArray) (i : Nat) (h : i < s.size) : sub s i (i + 1) = [s.get! i] := by
  have hl : i < s.data.toList.length := by rw [← Lib.size_eq]; exact h
  rw [sub_eq, show i + 1 - i = 1 from by omega, List.drop_eq_getElem_cons hl, get!_at s i h]
  rfl
theorem decodeN_wid (n b0 b1 b2 b3 : Nat) (_hn : 1 ≤ n) (hb : 128 ≤ b0) : ((Lib.decodeN n b0 b1 b2 b3).2 = 1 ∧ (Lib.decodeN n b0 b1 b2 b3).1 = 65533) ∨ (2 ≤ (Lib.decodeN n b0 b1 b2 b3).2 ∧ (Lib.decodeN n b0 b1 b2 b3).2 ≤ 4 ∧ (Lib.decodeN n b0 b1 b2 b3).2 ≤ n) := by
  unfold Lib.decodeN
  repeat' split
  all_goals first
    | (exfalso; omega)
    | exact .inl ⟨rfl, rfl⟩
    | (refine .inr ⟨?_, ?_, ?_⟩ <;> simp only <;> omega)
theorem wid_cases (s : ByteArray) (i : Nat) (h : i < s.size) (hb : 128 ≤ (s.get! i).toNat) : (wid s i = 1 ∧ (Utf8.decode s i).1 = 65533) ∨ (2 ≤ wid s i ∧ wid s i ≤ 4 ∧ i + wid s i ≤ s.size) := by
  unfold wid
  rw [Lib.decode_at]
  have := decodeN_wid (s.size - i) (s.get! i).toNat (s.get! (i + 1)).toNat (s.get! (i + 2)).toNat (s.get! (i + 3)).toNat (by omega) hb
  rcases this with h1 | h1
  · exact .inl h1
  · exact .inr (by omega)
theorem escF_out (s : ByteArray) (f i : Nat) (h : ¬ i < s.size) : escF s f i = [] := by
  cases f with
  | zero => rfl
  | succ f => rw [escF, if_neg h]
theorem escF_same (s : ByteArray) : ∀ (f g i : Nat), s.size - i ≤ f → s.size - i ≤ g → escF s f i = escF s g i := by
  intro f
  induction f with
  | zero => intro g i h1 h2; rw [escF_out s 0 i (by omega), escF_out s g i (by omega)]
  | succ f ih =>
    intro g i h1 h2
    by_cases hi : i < s.size
    · obtain ⟨g', rfl⟩ : ∃ g', g = g' + 1 := ⟨g - 1, by omega⟩
      rw [escF, escF, if_pos hi, if_pos hi]
      by_cases hb : (s.get! i).toNat < 128
      · rw [if_pos hb, if_pos hb, ih g' (i + 1) (by omega) (by omega)]
      · rw [if_neg hb, if_neg hb]
        by_cases hw : wid s i = 1
        · rw [if_pos hw, if_pos hw, ih g' (i + 1) (by omega) (by omega)]
        · rw [if_neg hw, if_neg hw]
          rcases wid_cases s i hi (by omega) with ⟨h3, _⟩ | ⟨h3, h4, h5⟩
          · exact absurd h3 hw
          · rw [ih g' (i + wid s i) (by omega) (by omega)]
    · rw [escF_out s _ i hi, escF_out s _ i hi]
theorem escAt_ascii (s : ByteArray) (i : Nat) (h : i < s.size) (hb : (s.get! i).toNat < 128) : escAt s i = escB (s.get! i) ++ escAt s (i + 1) := by
  unfold escAt
  obtain ⟨g, hg⟩ : ∃ g, s.size - i = g + 1 := ⟨s.size - i - 1, by omega⟩
  rw [hg, escF, if_pos h, if_pos hb, show s.size - (i + 1) = g from by omega]
theorem escAt_bad (s : ByteArray) (i : Nat) (h : i < s.size) (hb : 128 ≤ (s.get! i).toNat) (hw : wid s i = 1) : escAt s i = [92, 117, 102, 102, 102, 100] ++ escAt s (i + 1) := by
  unfold escAt
  obtain ⟨g, hg⟩ : ∃ g, s.size - i = g + 1 := ⟨s.size - i - 1, by omega⟩
  rw [hg, escF, if_pos h, if_neg (by omega), if_pos hw, show s.size - (i + 1) = g from by omega]
theorem escAt_good (s : ByteArray) (i : Nat) (h : i < s.size) (hb : 128 ≤ (s.get! i).toNat) (hw : wid s i ≠ 1) : escAt s i = sub s i (i + wid s i) ++ escAt s (i + wid s i) := by
  rcases wid_cases s i h hb with ⟨h3, _⟩ | ⟨h3, h4, h5⟩
  · exact absurd h3 hw
  · obtain ⟨g, hg⟩ : ∃ g, s.size - i = g + 1 := ⟨s.size - i - 1, by omega⟩
    unfold escAt
    rw [hg, escF, if_pos h, if_neg (by omega), if_neg hw, escF_same s g (s.size - (i + wid s i)) _ (by omega) (Nat.le_refl _)]
theorem escAt_end (s : ByteArray) : escAt s s.size = [] := escF_out s _ _ (by omega)
theorem escB_len (c : UInt8) : (escB c).length ≤ 6 := by
  unfold escB
  repeat' split
  all_goals simp
theorem escF_len (s : ByteArray) : ∀ (f i : Nat), i ≤ s.size → (escF s f i).length ≤ 6 * (s.size - i) := by
  intro f
  induction f with
  | zero => intro i _; simp [escF]
  | succ f ih =>
    intro i h
    by_cases hi : i < s.size
    · rw [escF, if_pos hi]
      by_cases hb : (s.get! i).toNat < 128
      · rw [if_pos hb, List.length_append]
        have := escB_len (s.get! i)
        have := ih (i + 1) (by omega)
        omega
      · rw [if_neg hb]
        by_cases hw : wid s i = 1
        · rw [if_pos hw, List.length_append]
          have := ih (i + 1) (by omega)
          simp only [List.length_cons, List.length_nil]
          omega
        · rw [if_neg hw, List.length_append]
          rcases wid_cases s i hi (by omega) with ⟨h3, _⟩ | ⟨h3, h4, h5⟩
          · exact absurd h3 hw
          · rw [sub_len s i _ (by omega) h5]
            have := ih (i + wid s i) h5
            omega
    · rw [escF_out s _ i hi]; simp
/-- The whole text: quotes round the escape. -/
def quo (s : ByteArray) : List UInt8 := 34 :: (escAt s 0 ++ [34])
theorem quo_len (s : ByteArray) : (quo s).length ≤ 6 * s.size + 2 := by
  unfold quo escAt
  have := escF_len s (s.size - 0) 0 (Nat.zero_le _)
  simp only [List.length_cons, List.length_append, List.length_nil]
  omega
/-- What has been written, what is still held back, and what is to come make the whole. -/
def Due (s : ByteArray) (l : List UInt8) (a k : Nat) (out : List UInt8) : Prop := out ++ sub s a k ++ escAt s k = l ++ [34] ++ escAt s 0 ∧ a ≤ k ∧ k ≤ s.size
theorem due_len {s : ByteArray} {l : List UInt8} {a k : Nat} {out : List UInt8} (h : Due s l a k out) : out.length + (k - a) + (escAt s k).length ≤ l.length + 1 + 6 * s.size := by
  obtain ⟨h1, h2, h3⟩ := h
  have e := congrArg List.length h1
  have e2 := escF_len s (s.size - 0) 0 (Nat.zero_le _)
  have e3 := sub_len s a k h2 h3
  have e4 : escAt s 0 = escF s (s.size - 0) 0 := rfl
  rw [← e4] at e2
  simp only [List.length_append, List.length_cons, List.length_nil] at e
  omega
theorem due_start (s : ByteArray) (l : List UInt8) : Due s l 0 0 (l ++ [34]) := ⟨by rw [sub_self]; simp, Nat.le_refl _, Nat.zero_le _⟩
/-- A byte that is held back. -/
theorem due_keep {s : ByteArray} {l : List UInt8} {a k : Nat} {out : List UInt8} (h : Due s l a k out) (hk : k < s.size) (hb : (s.get! k).toNat < 128) (he : escB (s.get! k) = [s.get! k]) : Due s l a (k + 1) out := by
  obtain ⟨h1, h2, h3⟩ := h
  refine ⟨?_, by omega, by omega⟩
  rw [escAt_ascii s k hk hb, he] at h1
  rw [← sub_app s a k (k + 1) h2 (by omega), sub_one s k hk]
  simpa using h1
theorem due_esc {s : ByteArray} {l : List UInt8} {a k : Nat} {out : List UInt8} (h : Due s l a k out) (hk : k < s.size) (hb : (s.get! k).toNat < 128) : Due s l (k + 1) (k + 1) (out ++ sub s a k ++ escB (s.get! k)) := by
  obtain ⟨h1, h2, h3⟩ := h
  refine ⟨?_, by omega, by omega⟩
  rw [escAt_ascii s k hk hb] at h1
  rw [sub_self]
  simpa using h1
theorem due_bad {s : ByteArray} {l : List UInt8} {a k : Nat} {out : List UInt8} (h : Due s l a k out) (hk : k < s.size) (hb : 128 ≤ (s.get! k).toNat) (hw : wid s k = 1) : Due s l (k + 1) (k + 1) (out ++ sub s a k ++ [92, 117, 102, 102, 102, 100]) := by
  obtain ⟨h1, h2, h3⟩ := h
  refine ⟨?_, by omega, by omega⟩
  rw [escAt_bad s k hk hb hw] at h1
  rw [sub_self]
  simpa using h1
theorem due_good {s : ByteArray} {l : List UInt8} {a k : Nat} {out : List UInt8} (h : Due s l a k out) (hk : k < s.size) (hb : 128 ≤ (s.get! k).toNat) (hw : wid s k ≠ 1) : Due s l a (k + wid s k) out := by
  have hc := wid_cases s k hk hb
  obtain ⟨h1, h2, h3⟩ := h
  refine ⟨?_, by omega, by omega⟩
  rw [escAt_good s k hk hb hw] at h1
  rw [← sub_app s a k (k + wid s k) h2 (by omega)]
  simpa using h1
theorem due_end {s : ByteArray} {l : List UInt8} {a : Nat} {out : List UInt8} (h : Due s l a s.size out) : out ++ sub s a s.size ++ [34] = l ++ quo s := by
  obtain ⟨h1, h2, h3⟩ := h
  rw [escAt_end, List.append_nil] at h1
  rw [h1]
  unfold quo
  simp
/-- The decoder at the rest of the string. -/
theorem decodeGo_at (s : ByteArray) (i : Nat) (h : i < s.size) : Lib.decodeGo (s.extract i s.size) = Utf8.decode s i := by
  unfold Lib.decodeGo
  have hz : (s.extract i s.size).size = s.size - i := by
    rw [Lib.size_eq, Lib.extract_to_end, List.length_drop, ← Lib.size_eq]
  rw [if_neg (by omega), Lib.tail_decode, Nat.add_zero]
theorem hexS_at : ∀ d : Fin 16, (⟨#[48, 49, 50, 51, 52, 53, 54, 55, 56, 57, 97, 98, 99, 100, 101, 102]⟩ : ByteArray).get! d.val = hx d.val := by decide
theorem hx_val (d : Nat) (h : d < 16) : (hx d).toNat = if d < 10 then 48 + d else 87 + d := by
  unfold hx
  split <;> simp <;> omega
/-- The width as the law's own table has it: 0 where nothing well-formed begins. -/
def seqN (s : ByteArray) (i : Nat) : Nat := if wid s i = 1 then 0 else wid s i
/-- A byte at place i, between two bounds. -/
def contB (s : ByteArray) (i lo hi : Nat) : Bool := decide (i < s.size ∧ lo ≤ (s.get! i).toNat ∧ (s.get! i).toNat ≤ hi)
theorem seqN_of {s : ByteArray} {i : Nat} : seqN s i = if (Lib.decodeN (s.size - i) (s.get! i).toNat (s.get! (i + 1)).toNat (s.get! (i + 2)).toNat (s.get! (i + 3)).toNat).2 = 1 then 0 else (Lib.decodeN (s.size - i) (s.get! i).toNat (s.get! (i + 1)).toNat (s.get! (i + 2)).toNat (s.get! (i + 3)).toNat).2 := by
  unfold seqN wid
  rw [Lib.decode_at]
theorem byte_lt (s : ByteArray) (i : Nat) : (s.get! i).toNat < 256 := UInt8.toNat_lt _
theorem seq2_no {s : ByteArray} {i : Nat} (hi : i < s.size) (h0 : 194 ≤ (s.get! i).toNat ∧ (s.get! i).toNat ≤ 223) (h1 : contB s (i + 1) 128 191 = false) : seqN s i = 0 := by
  rw [seqN_of]
  unfold contB at h1
  rw [decide_eq_false_iff_not] at h1
  have := byte_lt s (i + 1)
  unfold Lib.decodeN
  repeat' split
  all_goals first | rfl | (exfalso; omega)
theorem seq2_yes {s : ByteArray} {i : Nat} (_hi : i < s.size) (h0 : 194 ≤ (s.get! i).toNat ∧ (s.get! i).toNat ≤ 223) (h1 : contB s (i + 1) 128 191 = true) : seqN s i = 2 := by
  rw [seqN_of]
  unfold contB at h1
  rw [decide_eq_true_eq] at h1
  unfold Lib.decodeN
  repeat' split
  all_goals first | rfl | (exfalso; omega) | (exfalso; simp only at *; omega)
/-- The bounds of the second byte. -/
def lo3 (b : Nat) : Nat := if b = 224 then 160 else 128
def hi3 (b : Nat) : Nat := if b = 237 then 159 else 191
def lo4 (b : Nat) : Nat := if b = 240 then 144 else 128
def hi4 (b : Nat) : Nat := if b = 244 then 143 else 191
set_option maxHeartbeats 1600000 in
theorem seq3_no {s : ByteArray} {i : Nat} (hi : i < s.size) (h0 : 224 ≤ (s.get! i).toNat ∧ (s.get! i).toNat ≤ 239) (h1 : (contB s (i + 1) (lo3 (s.get! i).toNat) (hi3 (s.get! i).toNat) && contB s (i + 2) 128 191) = false) : seqN s i = 0 := by
  rw [seqN_of]
  unfold contB lo3 hi3 at h1
  rw [Bool.and_eq_false_iff, decide_eq_false_iff_not, decide_eq_false_iff_not] at h1
  have := byte_lt s (i + 1)
  have := byte_lt s (i + 2)
  revert h1
  generalize (s.get! i).toNat = b0 at *
  generalize (s.get! (i + 1)).toNat = b1 at *
  generalize (s.get! (i + 2)).toNat = b2 at *
  intro h1
  unfold Lib.decodeN
  repeat' split
  all_goals first | rfl | (exfalso; simp only at *; omega) | (exfalso; split at h1 <;> split at h1 <;> omega)
set_option maxHeartbeats 1600000 in
theorem seq3_yes {s : ByteArray} {i : Nat} (_hi : i < s.size) (h0 : 224 ≤ (s.get! i).toNat ∧ (s.get! i).toNat ≤ 239) (h1 : contB s (i + 1) (lo3 (s.get! i).toNat) (hi3 (s.get! i).toNat) = true) (h2 : contB s (i + 2) 128 191 = true) : seqN s i = 3 := by
  rw [seqN_of]
  unfold contB lo3 hi3 at h1
  unfold contB at h2
  rw [decide_eq_true_eq] at h1 h2
  revert h1
  generalize (s.get! i).toNat = b0 at *
  generalize (s.get! (i + 1)).toNat = b1 at *
  generalize (s.get! (i + 2)).toNat = b2 at *
  intro h1
  unfold Lib.decodeN
  repeat' split
  all_goals first | rfl | (exfalso; simp only at *; omega) | (exfalso; split at h1 <;> split at h1 <;> omega)
set_option maxHeartbeats 1600000 in
theorem seq4_no {s : ByteArray} {i : Nat} (hi : i < s.size) (h0 : 240 ≤ (s.get! i).toNat ∧ (s.get! i).toNat ≤ 244) (h1 : ((contB s (i + 1) (lo4 (s.get! i).toNat) (hi4 (s.get! i).toNat) && contB s (i + 2) 128 191) && contB s (i + 3) 128 191) = false) : seqN s i = 0 := by
  rw [seqN_of]
  unfold contB lo4 hi4 at h1
  rw [Bool.and_eq_false_iff, Bool.and_eq_false_iff, decide_eq_false_iff_not, decide_eq_false_iff_not, decide_eq_false_iff_not] at h1
  have := byte_lt s (i + 1)
  have := byte_lt s (i + 2)
  have := byte_lt s (i + 3)
  revert h1
  generalize (s.get! i).toNat = b0 at *
  generalize (s.get! (i + 1)).toNat = b1 at *
  generalize (s.get! (i + 2)).toNat = b2 at *
  generalize (s.get! (i + 3)).toNat = b3 at *
  intro h1
  unfold Lib.decodeN
  repeat' split
  all_goals first | rfl | (exfalso; simp only at *; omega) | (exfalso; split at h1 <;> split at h1 <;> omega)
set_option maxHeartbeats 1600000 in
theorem seq4_yes {s : ByteArray} {i : Nat} (_hi : i < s.size) (h0 : 240 ≤ (s.get! i).toNat ∧ (s.get! i).toNat ≤ 244) (h1 : contB s (i + 1) (lo4 (s.get! i).toNat) (hi4 (s.get! i).toNat) = true) (h2 : contB s (i + 2) 128 191 = true) (h3 : contB s (i + 3) 128 191 = true) : seqN s i = 4 := by
  rw [seqN_of]
  unfold contB lo4 hi4 at h1
  unfold contB at h2 h3
  rw [decide_eq_true_eq] at h1 h2 h3
  revert h1
  generalize (s.get! i).toNat = b0 at *
  generalize (s.get! (i + 1)).toNat = b1 at *
  generalize (s.get! (i + 2)).toNat = b2 at *
  generalize (s.get! (i + 3)).toNat = b3 at *
  intro h1
  unfold Lib.decodeN
  repeat' split
  all_goals first | rfl | (exfalso; simp only at *; omega) | (exfalso; split at h1 <;> split at h1 <;> omega)
theorem seq_other {s : ByteArray} {i : Nat} (hi : i < s.size) (h0 : 128 ≤ (s.get! i).toNat) (h1 : (s.get! i).toNat < 194 ∨ 244 < (s.get! i).toNat) : seqN s i = 0 := by
  rw [seqN_of]
  have := byte_lt s i
  have := byte_lt s (i + 1)
  have := byte_lt s (i + 2)
  have := byte_lt s (i + 3)
  unfold Lib.decodeN
  repeat' split
  all_goals first | rfl | (exfalso; omega) | (exfalso; simp only at *; omega)
end Go.Proofs.YtdkccihoecpcaaaGreatFmt
