/- The classes of bytes below 128, and the digits of an escape. Conditions: none. -/
import Derived.Test.YtdkccihoecpcaaaGreatFmtProg
import Derived.Test.YtdkccihoecpcaaaGreatFmtEsc
import Derived.WalkKit
namespace Go.Proofs.YtdkccihoecpcaaaGreatFmt
open Go.RowKit Go
theorem u8_eq {s : ByteArray} {k : Nat} (hlt : k < s.size) (c : UInt8) (h : s[k].toNat = c.toNat) : s.get! k = c := by
  rw [get!_at s k hlt]; exact UInt8.toNat.inj h
theorem escB_plain (c : UInt8) (h1 : 32 ≤ c.toNat) (h2 : c.toNat < 127) (h3 : c.toNat ≠ 34) (h4 : c.toNat ≠ 92) : escB c = [c] := by
  have n : ∀ d : UInt8, c.toNat ≠ d.toNat → ¬ c = d := fun d h e => h (by rw [e])
  unfold escB
  rw [if_neg (n 34 h3), if_neg (n 92 h4), if_neg (n 8 (by show c.toNat ≠ 8; omega)), if_neg (n 12 (by show c.toNat ≠ 12; omega)), if_neg (n 10 (by show c.toNat ≠ 10; omega)), if_neg (n 13 (by show c.toNat ≠ 13; omega)), if_neg (n 9 (by show c.toNat ≠ 9; omega)), if_neg]
  rintro (h | h)
  · have : c.toNat < 32 := h
    omega
  · exact n 127 (by show c.toNat ≠ 127; omega) h
theorem escB_ctl (c : UInt8) (h1 : c.toNat < 32) (h2 : c.toNat ≠ 8) (h3 : c.toNat ≠ 12) (h4 : c.toNat ≠ 10) (h5 : c.toNat ≠ 13) (h6 : c.toNat ≠ 9) : escB c = [92, 117, 48, 48, hx (c.toNat / 16), hx (c.toNat % 16)] := by
  have n : ∀ d : UInt8, c.toNat ≠ d.toNat → ¬ c = d := fun d h e => h (by rw [e])
  unfold escB
  rw [if_neg (n 34 (by show c.toNat ≠ 34; omega)), if_neg (n 92 (by show c.toNat ≠ 92; omega)), if_neg (n 8 h2), if_neg (n 12 h3), if_neg (n 10 h4), if_neg (n 13 h5), if_neg (n 9 h6), if_pos (show c < 32 ∨ c = 127 from Or.inl h1)]
set_option maxRecDepth 100000 in
theorem and15_all : ∀ x : Fin 256, bits .and .u8 ((x.val : Nat) : Int) 15 = ((x.val % 16 : Nat) : Int) := by decide
theorem and15 (c : Nat) (h : c < 256) : bits .and .u8 (c : Int) 15 = ((c % 16 : Nat) : Int) := and15_all ⟨c, h⟩
set_option maxRecDepth 100000 in
theorem hexS_run (d : Nat) (h : d < 16) (W : World) : (Instr.index 9 (.string ⟨#[48, 49, 50, 51, 52, 53, 54, 55, 56, 57, 97, 98, 99, 100, 101, 102]⟩) (.int .u8 (d : Int))).run Tryz.prog W = .ok (.int .u8 ((hx d).toNat : Int)) W := by
  have e : d = 0 ∨ d = 1 ∨ d = 2 ∨ d = 3 ∨ d = 4 ∨ d = 5 ∨ d = 6 ∨ d = 7 ∨ d = 8 ∨ d = 9 ∨ d = 10 ∨ d = 11 ∨ d = 12 ∨ d = 13 ∨ d = 14 ∨ d = 15 := by omega
  clear h
  rcases e with rfl | rfl | rfl | rfl | rfl | rfl | rfl | rfl | rfl | rfl | rfl | rfl | rfl | rfl | rfl | rfl <;> rfl
end Go.Proofs.YtdkccihoecpcaaaGreatFmt
