/- What a write to a builder or a buffer may have changed beside it, and the tables that it leaves. Conditions: none. -/
import Derived.Test.YtdkccihoecpcaaaGreatFmtAppInt
import Derived.Lib.OthersKept
import Derived.Lib.BufferKept
import Derived.Lib.FrozenHead2
import Derived.Shelf.Unicode.DecodeAny
namespace Go.Proofs.YtdkccihoecpcaaaGreatFmt
open Go.RowKit Go
/-- Below B, and outside of the blocks b and eb and of rows of bytes, nothing that was there has changed. -/
structure Fr (B b eb : Nat) (w w' : World) : Prop where
  below : Below B w w'
  oth : ∀ k o, w.heap[k]? = some o → k ≠ b → k ≠ eb → (∀ c fz, o ≠ .cells c 5 fz) → w'.heap[k]? = some o
theorem Fr.refl (B b eb : Nat) (w : World) : Fr B b eb w w := ⟨Below.refl _ _, fun _ _ h _ _ _ => h⟩
theorem Fr.trans {B b eb : Nat} {w w1 w2 : World} (h : Fr B b eb w w1) (k : Fr B b eb w1 w2) : Fr B b eb w w2 :=
  ⟨h.below.trans k.below, fun i o hi h1 h2 h3 => k.oth i o (h.oth i o hi h1 h2 h3) h1 h2 h3⟩
theorem Fr.of_k {B b eb : Nat} {w w' : World} (h : Below B w w') (k : Lib.OthersKept 5 (some b) w w') : Fr B b eb w w' :=
  ⟨h, fun i o hi h1 _ h3 => k i o hi (fun e => h1 (Option.some.inj e)) h3⟩
theorem Fr.of_below {B b eb : Nat} {w w' : World} (hB : B ≤ w.heap.size) (h : Below w.heap.size w w') : Fr B b eb w w' :=
  ⟨h.mono hB, fun i _ hi _ _ _ => (h.block i (Lib.lt_of_heap hi)).trans hi⟩
theorem Fr.of_touch {B b eb : Nat} {w w' : World} (hB : B ≤ eb) (hw : B ≤ w.heap.size) (h : Touch [eb] w w') : Fr B b eb w w' :=
  ⟨h.below (by simpa using hB) hw, fun i _ hi _ h2 _ => (h.block i (Lib.lt_of_heap hi) (by simpa using h2)).trans hi⟩
theorem tab_below {B : Nat} {w w' : World} (h : Tab B w) (hb : Below B w w') : Tab B w' := by
  obtain ⟨h1, g, hg, hgB, hBw⟩ := h
  refine ⟨?_, g, hg, hgB, Nat.le_trans hBw hb.size⟩
  unfold Lib.TabIs World.var? at h1 ⊢
  rw [hg] at h1 ⊢
  simp only [Option.bind_some] at h1 ⊢
  rw [hb.block g hgB]
  exact h1
theorem encTag : (66 : Nat) ≠ 5 := by decide
theorem byteCells_snoc (l : List UInt8) (c : UInt8) : Lib.byteCells l ++ [Value.int .u8 (c.toNat : Int)] = Lib.byteCells (l ++ [c]) := by simp [Lib.byteCells]
theorem byteCells_app (l s : List UInt8) : Lib.byteCells l ++ Lib.byteCells s = Lib.byteCells (l ++ s) := by simp [Lib.byteCells]
theorem strCells_eq (s : ByteArray) : Lib.strCells s = Lib.byteCells s.data.toList := by simp [Lib.strCells, Lib.byteCells]
theorem info_byte3 : (Tryz.prog.info? 5).map (fun i => (i.zero, i.size, i.bytes)) = some (some (.int .u8 0), 1, 1) := by kernel_rfl
end Go.Proofs.YtdkccihoecpcaaaGreatFmt
