/- Base64 over plain bytes. Conditions: none. -/
import Derived.Test.YtlhndkonhjjcgaaGreatFmtOwn
namespace Go.Proofs.YtlhndkonhjjcgaaGreatFmt
open Go
def q4 (al : ByteArray) (v : Nat) : List UInt8 := [al.get! (v / 262144 % 64), al.get! (v / 4096 % 64), al.get! (v / 64 % 64), al.get! (v % 64)]
def v3 (x : ByteArray) (k : Nat) : Nat := (x.get! (3 * k)).toNat * 65536 + (x.get! (3 * k + 1)).toNat * 256 + (x.get! (3 * k + 2)).toNat
def b64k (al x : ByteArray) : Nat → List UInt8
  | 0 => []
  | k + 1 => b64k al x k ++ q4 al (v3 x k)
def b64t (al x : ByteArray) : List UInt8 :=
  if x.size % 3 = 1 then (q4 al ((x.get! (x.size - 1)).toNat * 65536)).take 2 ++ [61, 61]
  else if x.size % 3 = 2 then (q4 al ((x.get! (x.size - 2)).toNat * 65536 + (x.get! (x.size - 1)).toNat * 256)).take 3 ++ [61] else []
def b64 (al x : ByteArray) : List UInt8 := b64k al x (x.size / 3) ++ b64t al x
theorem b64_nil (al x : ByteArray) (h : x.size = 0) : b64 al x = [] := by
  unfold b64 b64t
  rw [h]
  rfl
theorem b64k_len (al x : ByteArray) (k : Nat) : (b64k al x k).length = 4 * k := by
  induction k with
  | zero => rfl
  | succ k ih => rw [b64k, List.length_append, ih]; simp [q4]; omega
theorem b64_len (al x : ByteArray) : (b64 al x).length = (x.size + 2) / 3 * 4 := by
  unfold b64 b64t
  rw [List.length_append, b64k_len]
  split
  · simp [q4]; omega
  · split
    · simp [q4]; omega
    · simp; omega
end Go.Proofs.YtlhndkonhjjcgaaGreatFmt
