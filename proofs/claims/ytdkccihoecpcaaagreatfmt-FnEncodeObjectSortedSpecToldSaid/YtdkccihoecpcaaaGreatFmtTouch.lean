/- What the texts on writers share: posts, and what a call may have changed. Conditions: none. -/
import Derived.Test.YtdkccihoecpcaaaGreatFmtProg
import Derived.WalkKit
import Derived.WalkLawsBesides
import Derived.WalkSpells
import Derived.Lib.Hide
import Derived.Below
import Derived.IntWalk
import Derived.Deep.QuietTactic
import Derived.Deep.RegionHeld3
import Derived.BigQuiet
import Derived.Outline
import Derived.Lib.BufferWrite
import Derived.Laws.CopyRow
namespace Go.Proofs.YtdkccihoecpcaaaGreatFmt
open Go.RowKit Go
def Ret (v : Value) (w : World) (e : Ending) (w' : World) : Prop := e = .returned v ∧ w = w'
theorem ret_bool {b c : Bool} (h : b = c) : Ending.returned (.bool b) = .returned (.bool c) := by rw [h]
/-- Nothing but the blocks of S has changed of what was there. -/
structure Touch (S : List Nat) (w w' : World) : Prop where
  os : w'.os = w.os
  tape : w'.tape = w.tape
  output : w'.output = w.output
  size : w.heap.size ≤ w'.heap.size
  block : ∀ k, k < w.heap.size → k ∉ S → w'.heap[k]? = w.heap[k]?
theorem Touch.refl (S : List Nat) (w : World) : Touch S w w := ⟨rfl, rfl, rfl, Nat.le_refl _, fun _ _ _ => rfl⟩
theorem Touch.trans {S : List Nat} {a b c : World} (h : Touch S a b) (k : Touch S b c) : Touch S a c :=
  ⟨k.os.trans h.os, k.tape.trans h.tape, k.output.trans h.output, Nat.le_trans h.size k.size, fun i hi h1 => (k.block i (Nat.lt_of_lt_of_le hi h.size) h1).trans (h.block i hi h1)⟩
theorem Touch.mono {S T : List Nat} {a b : World} (h : Touch S a b) (hs : ∀ x, x ∈ S → x ∈ T) : Touch T a b := ⟨h.os, h.tape, h.output, h.size, fun k hk h1 => h.block k hk (fun m => h1 (hs k m))⟩
theorem Touch.drewN {S : List Nat} {a w : World} (h : Touch S a w) (n : Nat) : Touch S a (w.drewN n) := h.trans ⟨rfl, rfl, rfl, Nat.le_refl _, fun _ _ _ => rfl⟩
theorem Touch.alloc {S : List Nat} {a w : World} (h : Touch S a w) (o : Obj) : Touch S a (w.alloc o) :=
  h.trans ⟨rfl, rfl, rfl, by simp, fun k hk _ => Below.heap_alloc _ _ _ hk⟩
theorem Touch.setRow {S : List Nat} {a w : World} (h : Touch S a w) (b : Nat) (hb : b ∈ S ∨ a.heap.size ≤ b) (cs : Array Value) : Touch S a (w.setRow b cs) :=
  ⟨h.os, h.tape, h.output, Nat.le_trans h.size (by simp), fun k hk h1 => (setRow_other w b k cs (fun e => by subst e; rcases hb with hb | hb; exact h1 hb; omega)).trans (h.block k hk h1)⟩
theorem Touch.setCell {S : List Nat} {a w : World} (h : Touch S a w) (p : Addr) (hb : p.block ∈ S ∨ a.heap.size ≤ p.block) (v : Value) : Touch S a (w.setCell p v) :=
  ⟨h.os, h.tape, h.output, Nat.le_trans h.size (by simp [World.setCell]), fun k hk h1 => (Below.heap_setCell w p v k (fun e => by subst e; rcases hb with hb | hb; exact h1 hb; omega)).trans (h.block k hk h1)⟩
theorem Touch.below {S : List Nat} {B : Nat} {w w' : World} (h : Touch S w w') (h1 : ∀ x, x ∈ S → B ≤ x) (h3 : B ≤ w.heap.size) : Below B w w' :=
  ⟨h.os, h.tape, h.output, h.size, fun k hk => h.block k (by omega) (fun m => by have := h1 k m; omega)⟩
theorem Touch.cell {S : List Nat} {w w' : World} (h : Touch S w w') {p : Addr} (hp : p.block < w.heap.size) (h1 : p.block ∉ S) : w'.cell? p = w.cell? p := World.cell?_of_block (w := w) (h.block p.block hp h1)
theorem bc_len (l : List UInt8) : (Lib.byteCells l).length = l.length := by simp [Lib.byteCells]
end Go.Proofs.YtdkccihoecpcaaaGreatFmt
