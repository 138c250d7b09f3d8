/- The text of an object whose keys rise, and its length. Conditions: none. -/
import Derived.Test.YtdkccihoecpcaaaGreatFmtSortP
import Derived.Test.YtdkccihoecpcaaaGreatFmtEscK
import Derived.Lib.ItoaLen
import Derived.Lib.ItoaMem
namespace Go.Proofs.YtdkccihoecpcaaaGreatFmt
open Go
/-- One pair's text. -/
def kvT (p : ByteArray × Nat) : List UInt8 := quo p.1 ++ [58] ++ Lib.itoa (p.2 : Int)
def nth (S : List (ByteArray × Nat)) (j : Nat) : ByteArray × Nat := S.getD j (ByteArray.empty, 0)
/-- The first j pairs' text. -/
def objP (S : List (ByteArray × Nat)) : Nat → List UInt8
  | 0 => []
  | j + 1 => objP S j ++ (if j = 0 then [] else [44]) ++ kvT (nth S j)
def objT (S : List (ByteArray × Nat)) : List UInt8 := [123] ++ objP S S.length ++ [125]
/-- Keys of at most 2 to the 20 bytes, places below 4096. -/
def Small (S : List (ByteArray × Nat)) : Prop := ∀ p ∈ S, p.1.size ≤ 1048576 ∧ p.2 ≤ 4096
theorem nth_mem {S : List (ByteArray × Nat)} {j : Nat} (h : j < S.length) : nth S j ∈ S := by
  unfold nth
  rw [List.getD_eq_getElem?_getD, List.getElem?_eq_getElem h]
  exact List.getElem_mem h
theorem kvT_len (p : ByteArray × Nat) (h : p.1.size ≤ 1048576 ∧ p.2 ≤ 4096) : (kvT p).length ≤ 6291600 := by
  unfold kvT
  have h1 := quo_len p.1
  have h2 := Lib.itoa_length_le (p.2 : Int) (by omega) (by omega)
  rw [List.length_append, List.length_append, List.length_singleton]
  omega
theorem objP_len (S : List (ByteArray × Nat)) (h : Small S) : ∀ j, j ≤ S.length → (objP S j).length ≤ 6291601 * j
  | 0, _ => by simp [objP]
  | j + 1, hj => by
    unfold objP
    have h1 := objP_len S h j (by omega)
    have h2 := kvT_len (nth S j) (h _ (nth_mem (by omega)))
    rw [List.length_append, List.length_append]
    split <;> simp only [List.length_nil, List.length_singleton] <;> omega
end Go.Proofs.YtdkccihoecpcaaaGreatFmt
