/- encodeFloat64 over a buffer: every float. Conditions: the digits' place is bounded where the format is f. -/
import Derived.Test.YtdkccihoecpcaaaGreatFmtEe
namespace Go.Proofs.YtdkccihoecpcaaaGreatFmt
open Go.RowKit Go
/-- The exponent without its zero. -/
def clE (L : List UInt8) : List UInt8 :=
  match L.reverse with
  | d :: c :: b :: a :: P => if a = 101 ∧ b = 45 ∧ c = 48 then P.reverse ++ [a, b, d] else L
  | _ => L
theorem clE_at (P : List UInt8) (a b c d : UInt8) : clE (P ++ [a, b, c, d]) = if a = 101 ∧ b = 45 ∧ c = 48 then P ++ [a, b, d] else P ++ [a, b, c, d] := by
  unfold clE
  rw [show (P ++ [a, b, c, d]).reverse = d :: c :: b :: a :: P.reverse from by simp]
  simp
theorem ftE_four (s : Bool) (r : Nat) : ∃ P a b c d, ftE s r = P ++ [a, b, c, d] := by
  have h : 4 ≤ (ftE s r).length := by
    unfold ftE fmE exT
    simp only [List.length_append, List.length_cons, List.length_nil]
    repeat' split
    all_goals simp only [List.length_cons, List.length_nil]
    all_goals omega
  obtain ⟨n, hn⟩ : ∃ n, (ftE s r).length = n + 4 := ⟨(ftE s r).length - 4, by omega⟩
  refine ⟨(ftE s r).take n, (ftE s r)[n]'(by omega), (ftE s r)[n + 1]'(by omega), (ftE s r)[n + 2]'(by omega), (ftE s r)[n + 3]'(by omega), ?_⟩
  apply List.ext_getElem (by simp; omega)
  intro i h1 h2
  by_cases hi : i < n
  · rw [List.getElem_append_left (by simp; omega), List.getElem_take]
  · rw [List.getElem_append_right (by simp; omega)]
    have : i = n ∨ i = n + 1 ∨ i = n + 2 ∨ i = n + 3 := by omega
    have e : ((ftE s r).take n).length = n := by simp; omega
    rcases this with rfl | rfl | rfl | rfl <;> simp [hn, Nat.min_eq_left (Nat.le_add_right _ _), Nat.add_sub_cancel_left]
theorem u8_eq (a : UInt8) (n : Nat) (h : n < 256) : ((a.toNat : Int) == (n : Int)) = decide (a = UInt8.ofNat n) := by
  by_cases e : a = UInt8.ofNat n
  · rw [decide_eq_true e, beq_iff_eq, e, dig8 n h]
  · rw [decide_eq_false e, beq_eq_false_iff_ne]
    intro h2
    apply e
    apply UInt8.toNat.inj
    rw [dig8 n h]
    exact_mod_cast h2
theorem encB_fe {B b eb : Nat} {l : List UInt8} {w : World} (h : StB B b eb l w) (s : Bool) (r : Nat) (h0 : 0 < r) (hz : r < 4517329193108106637 ∨ 4921056587992461136 ≤ r) (hr : r ≤ 9218868437227405311) (T : Nat) (ht : Tabs T w) (hl : l.length + 64 ≤ 140737488355328)
    (Y Z : Nat) (hY : ∀ w, Calls Tryz.prog 53 #[.float .f64 Y] w (Ret (.bool false) w)) (hmax : ∀ w, (Builtin.max_ #[22, 22 ] 22 #[.float .f64 Y, .float .f64 18442240474082181119]).run Tryz.prog w = .ok (.float .f64 Z) w) (hmin : ∀ w, (Builtin.min_ #[22, 22 ] 22 #[.float .f64 Z, .float .f64 9218868437227405311]).run Tryz.prog w = .ok (.float .f64 (Ieee.double.word s r)) w) :
    Calls Tryz.prog 42 #[.pointer (some ⟨eb, 0, none⟩), .float .f64 Y] w (WrB B b eb (l ++ clE (ftE s r)) (.tuple #[]) w) := by
  obtain ⟨P, a, b0, c, d, hL⟩ := ftE_four s r
  rw [hL, clE_at]
  have ea := u8_eq a 101 (by omega)
  have eb' := u8_eq b0 45 (by omega)
  have ec := u8_eq c 48 (by omega)
  by_cases ha : a = 101
  · rw [decide_eq_true (show a = UInt8.ofNat 101 from ha)] at ea
    by_cases hb : b0 = 45
    · rw [decide_eq_true (show b0 = UInt8.ofNat 45 from hb)] at eb'
      by_cases hc : c = 48
      · rw [decide_eq_true (show c = UInt8.ofNat 48 from hc)] at ec
        rw [if_pos ⟨ha, hb, hc⟩]
        exact encB_fe3 h s r h0 hz hr T ht hl P a b0 c d hL ea eb' ec Y Z hY hmax hmin
      · rw [decide_eq_false (show ¬ c = UInt8.ofNat 48 from hc)] at ec
        rw [if_neg (fun x => hc x.2.2)]
        exact encB_fe2 h s r h0 hz hr T ht hl P a b0 c d hL ea eb' ec Y Z hY hmax hmin
    · rw [decide_eq_false (show ¬ b0 = UInt8.ofNat 45 from hb)] at eb'
      rw [if_neg (fun x => hb x.2.1)]
      exact encB_fe1 h s r h0 hz hr T ht hl P a b0 c d hL ea eb' Y Z hY hmax hmin
  · rw [decide_eq_false (show ¬ a = UInt8.ofNat 101 from ha)] at ea
    rw [if_neg (fun x => ha x.1)]
    exact encB_fe0 h s r h0 hz hr T ht hl P a b0 c d hL ea Y Z hY hmax hmin
end Go.Proofs.YtdkccihoecpcaaaGreatFmt
