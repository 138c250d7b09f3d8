/- The two tables of UTF-8's decoder, from the row's list to the decoder's contract. Conditions: none. -/
import Derived.Test.YtdkccihoecpcaaaGreatFmtShelfU
import Derived.Test.YtdkccihoecpcaaaGreatFmtEsc
import Derived.Lib.LaidU8T
import Derived.Below
namespace Go.Proofs.YtdkccihoecpcaaaGreatFmt
open Go.RowKit Go
/-- The decoder's tables lie below B. -/
def U8 (B : Nat) (w : World) : Prop := Lib.Utf8Tabs 2 3 w ∧ 2 < B ∧ 3 < B ∧ B ≤ w.heap.size
theorem u8_below {B : Nat} {w w' : World} (h : U8 B w) (hb : Below B w w') : U8 B w' := by
  obtain ⟨⟨h1, h2⟩, h3, h4, h5⟩ := h
  refine ⟨⟨fun c hc => ?_, fun i hi => ?_⟩, h3, h4, Nat.le_trans h5 hb.size⟩
  · rw [hb.cell (p := ⟨2, c, none⟩) h3]; exact h1 c hc
  · rw [hb.cell (p := ⟨3, 2 * i, none⟩) h4, hb.cell (p := ⟨3, 2 * i + 1, none⟩) h4]; exact h2 i hi
theorem u8_at {B : Nat} {w : World} (h : U8 B w) : U8 w.heap.size w := ⟨h.1, Nat.lt_of_lt_of_le h.2.1 h.2.2.2, Nat.lt_of_lt_of_le h.2.2.1 h.2.2.2, Nat.le_refl _⟩
theorem decode_any (s : ByteArray) (i : Nat) (h : i < s.size) (B : Nat) (w : World) (hU : U8 B w) :
    Calls Tryz.prog 57 #[.string (s.extract i s.size)] w fun e w' => e = .returned (.tuple #[.int .i32 ((Utf8.decode s i).1 : Int), .int .i64 (wid s i : Int)]) ∧ Below w.heap.size w w' := by
  have := Tryz.utf8_DecodeRuneInString (s.extract i s.size) w hU.1
  rw [decodeGo_at s i h] at this
  exact this
def u8ren : Shelf.Ren := ⟨fun x => x, fun k => if k = 5 then 5 else if k = 119 then 164 else if k = 138 then 166 else if k = 139 then 167 else 0, fun k => if k = 3 then 2 else if k = 4 then 3 else 0⟩
theorem u8_types : U8Types Tryz.prog u8ren := ⟨Tryz.underlying5, Tryz.underlying164, Tryz.underlying166, Tryz.underlying167⟩
theorem u8_extra : U8Extra Tryz.prog u8ren := ⟨by kernel_rfl, by kernel_rfl, by kernel_rfl, by kernel_rfl, by kernel_rfl, by kernel_rfl, by kernel_rfl⟩
theorem u8_vars {P : Program} {w : World} : ∀ (laid : List (String × DataW Unit)) (ps : List MemPlace), DataW.LaidVars P w laid ps → ∀ n d, (n, d) ∈ laid → Lib.VarReads P w n d :=
  fun _ _ h n d hm => Lib.LaidVars_reads h n d hm
theorem u8_reads {P : Program} {laid : List (String × DataW Unit)} {w : World} (h : laidMetH P laid w) (n : String) (d : DataW Unit) (hm : (n, d) ∈ laid) (hn : d.handleName?.isNone = true) : Lib.VarReads P w n d := by
  unfold laidMetH at h
  split at h
  · obtain ⟨ps, hv, _⟩ := h
    exact u8_vars _ ps hv n d hm
  · obtain ⟨⟨ps, hv, _⟩, _⟩ := h
    exact u8_vars _ ps hv n d (List.mem_filter.2 ⟨hm, hn⟩)
theorem u8_of_laid {laid : List (String × DataW Unit)} {W : World} (h : laidMetH Tryz.prog laid W) (h3 : ("unicode/utf8.first", Lib.firstData) ∈ laid) (h4 : ("unicode/utf8.acceptRanges", Lib.acceptData) ∈ laid) : U8 W.heap.size W := by
  have t := utf8Tabs_of_readsT u8_types u8_extra (u8_reads h _ _ h3 (by kernel_rfl)) (u8_reads h _ _ h4 (by kernel_rfl))
  have t' : Lib.Utf8Tabs 2 3 W := t
  refine ⟨t', ?_, ?_, Nat.le_refl _⟩
  · exact World.block_lt_of_cell? _ _ (t'.1 0 (by omega))
  · exact World.block_lt_of_cell? _ _ (t'.2 0 (by omega)).1
end Go.Proofs.YtdkccihoecpcaaaGreatFmt
