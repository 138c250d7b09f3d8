/- sort.Slice at the encoder's own pairs, off the kit's shelf: a permutation, rising by key. Conditions: fewer than 2 to the 62. -/
import Derived.Test.YtdkccihoecpcaaaGreatFmtSortP
import Derived.Test.YtdkccihoecpcaaaGreatFmtShelfO
import Derived.Test.YtdkccihoecpcaaaGreatFmtTouch
import Derived.Shelf.SlSortFuncK.WholeK
import Derived.Shelf.GgSortFunc.Tiny
import Derived.Laws.Externs
import Derived.Lib.Strings
namespace Go.Proofs.YtdkccihoecpcaaaGreatFmt
open Go.Shelf Go.RowKit Go.Lib Go.Sort Go
/-- A pair as the row holds it. -/
def encKV (p : ByteArray × Nat) : List Value := [.string p.1, .iface 3 (.int .i64 (p.2 : Int))]
def ltKV (p q : ByteArray × Nat) : Bool := Op.bytesLess p.1.toList q.1.toList
theorem ltKV_iff (p q : ByteArray × Nat) : ltKV p q = true ↔ kLt p q := by
  unfold ltKV kLt
  rw [bytesLess_eq, Lib.toList_data, Lib.toList_data, decide_eq_true_eq]
theorem ltKV_not (p q : ByteArray × Nat) : ltKV p q = false ↔ ¬ kLt p q := by
  rw [← ltKV_iff, Bool.not_eq_true]
theorem swo_ltKV : SWO ltKV where
  irrefl x := (ltKV_not _ _).2 (kLt_irrefl x)
  trans x y z h1 h2 := (ltKV_iff _ _).2 (kLt_trans ((ltKV_iff _ _).1 h1) ((ltKV_iff _ _).1 h2))
  ntrans x y z h1 h2 := (ltKV_not _ _).2 fun h => by
    have a := List.not_lt.1 ((ltKV_not _ _).1 h1)
    have b := List.not_lt.1 ((ltKV_not _ _).1 h2)
    exact List.not_lt.2 (List.le_trans b a) h
noncomputable def svT : TypeInfo := (Tryz.prog.info? 107).get (by kernel_rfl)
noncomputable def svE : TypeInfo := (Tryz.prog.info? 109).get (by kernel_rfl)
theorem svK (n : Nat) (h2 : 2 ≤ n) : Lib.swapperK n svE 25 = 9 := by
  have a : svE.hasPointers = true := by kernel_rfl
  have b : svE.bytes = 32 := by kernel_rfl
  have c : (n == 0) = false := by simp; omega
  have d : (n == 1) = false := by simp; omega
  simp [Lib.swapperK, a, b, c, d]
set_option maxRecDepth 100000 in
set_option maxHeartbeats 2000000 in
/-- The encoder's own closure. -/
theorem lessKV (blk c Bs size : Nat) (W : World) (G : Nat → ByteArray) (hs : W.cell? ⟨Bs, 0, none⟩ = some (.slice (some ⟨blk, 0, none⟩) size c))
    (hc : ∀ t, t < size → W.cell? ⟨blk, 0 + t * 2, none⟩ = some (.string (G t))) (i j : Nat) (hi : i < size) (hj : j < size) (_hsz : size < 4611686018427387904) :
    Calls Tryz.prog 59 #[.int .i64 i, .int .i64 j, .pointer (some ⟨Bs, 0, none⟩)] W fun e w' => e = .returned (.bool (Op.bytesLess (G i).toList (G j).toList)) ∧ ∃ q, w' = W.drewN q := by
  have ci := hc i hi
  have cj := hc j hj
  rw [Nat.zero_add] at ci cj
  clear hc
  go_enter Tryz.func59, Tryz.ntmps59
  go_wp2
  go_quiet (fail)
  go_wp2
  go_ret
  exact ⟨rfl, nq, rfl⟩
theorem sortKV (blk c Bs : Nat) (d : Array (ByteArray × Nat)) (h2 : 2 ≤ d.size) (hsz : d.size < 4611686018427387904) (w : World) (hH : HoldsK encKV 2 w blk 0 d) (hblk : blk < w.heap.size)
    (hBs : w.cell? ⟨Bs, 0, none⟩ = some (.slice (some ⟨blk, 0, none⟩) d.size c)) (hB1 : Bs < w.heap.size) (hB2 : Bs ≠ blk) :
    Calls Tryz.prog 58 #[.iface 107 (.slice (some ⟨blk, 0, none⟩) d.size c), .func (.func 59) #[] #[.pointer (some ⟨Bs, 0, none⟩)]] w fun e w' =>
      e = .returned (.tuple #[]) ∧ ∃ d' n os, PermIn 0 d.size d d' ∧ SortedIn ltKV 0 d.size d' ∧ w' = grow (putRowK encKV 2 (Sort.ahead w n) blk 0 d') os := by
  have hless : LessReadsK Tryz.prog 59 #[.pointer (some ⟨Bs, 0, none⟩)] encKV 2 ltKV blk 0 d.size w := by
    intro m os dk hs i j hi hj
    have e : sortWorldK encKV 2 w blk 0 m dk os = putRowK encKV 2 (grow (Sort.ahead w m) os) blk 0 dk := by
      unfold sortWorldK; rw [putRowK_grow _ _ (Sort.ahead w m) _ blk 0 _ hblk]
    have hHg : HoldsK encKV 2 (grow (Sort.ahead w m) os) blk 0 d := holdsK_grow _ _ _ _ blk 0 d hblk (holdsK_ahead _ _ _ _ _ _ _ hH)
    refine lessKV blk c Bs d.size _ (fun t => dk[t]!.1) ?_ (fun t ht => ?_) i j hi hj (by omega)
    · rw [e, cell?_putRowK_other _ _ _ blk 0 dk _ (by exact hB2), cell?_grow _ _ _ (by exact hB1)]; exact hBs
    · rw [e]; exact ((holdsK_putRowK _ _ _ blk 0 d dk hHg hs).cell (i := t) (c := 0) (by omega) (by omega)).1
  exact Any.sort_Slice_cells_sorted Tryz.laysGg6 107 109 svT svE (by kernel_rfl) (by kernel_rfl) (by kernel_rfl) (by kernel_rfl) 25 (fun _ => by kernel_rfl) encKV 2 (fun _ => rfl) (by kernel_rfl) (fun _ => by kernel_rfl)
    (fun x v hv => by simp [encKV] at hv; rcases hv with rfl | rfl <;> rfl) ltKV swo_ltKV 59 _
    (enters_of Tryz.func59 (by kernel_rfl) rfl) blk 0 c d h2 hsz 110 (by rw [svK _ h2]; kernel_rfl) false
    (fun args W => run_callFunc_extern Tryz.func110 (by kernel_rfl) (by kernel_rfl) (by kernel_rfl) (e := Extern.ReflectliteSwapper.swap false) (by kernel_rfl) args W) w hless hH hblk
end Go.Proofs.YtdkccihoecpcaaaGreatFmt
