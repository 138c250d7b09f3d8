/- sort.Slice at the row of pairs, whatever its length: the row rises by key behind it. Conditions: at most 4096 pairs, no key twice. -/
import Derived.Test.YtdkccihoecpcaaaGreatFmtKvP
namespace Go.Proofs.YtdkccihoecpcaaaGreatFmt
open Go.Shelf Go.RowKit Go.Sort Go
theorem rising_of_sorted {L L' : List (ByteArray × Nat)} (hA : Apart L) (hp : L'.Perm L) (hs : SortedIn ltKV 0 L'.length L'.toArray) : Rising L' := by
  have hA' : Apart L' := (hp.pairwise_iff (fun {_ _} h => Ne.symm h)).2 hA
  unfold Rising
  rw [List.pairwise_iff_getElem]
  intro i j hi hj hij
  have h1 := hs i j (Nat.zero_le _) hij hj
  rw [getElem!_pos L'.toArray j (by simpa using hj), getElem!_pos L'.toArray i (by simpa using hi)] at h1
  simp only [List.getElem_toArray] at h1
  unfold Apart at hA'
  rw [List.pairwise_iff_getElem] at hA'
  exact kLt_total (Ne.symm (hA' i j hi hj hij)) ((ltKV_not _ _).1 h1)
theorem put_kv (L L' : List (ByteArray × Nat)) (N : Nat) (h' : L'.length = N) : putCells id 0 (flatK encKV 2 L'.toArray) (kvRow L N) = kvRow L' N := by
  apply Array.ext
  · simp [putCells, kvRow]
  · intro i h1 h2
    have hi : i < N * 2 := by rw [kvRow_size] at h2; exact h2
    rw [kvRow_at]
    simp only [putCells, Array.getElem_mapIdx]
    rw [if_pos (by rw [size_flatK]; simp; omega), Nat.sub_zero, id, get_flatK _ _ _ _ (by simp; omega)]
    have hL : i / 2 < L'.length := by omega
    have e : L'.toArray[i / 2]! = nth L' (i / 2) := by
      unfold nth
      rw [getElem!_pos L'.toArray (i / 2) (by simpa using hL), List.getD_eq_getElem?_getD, List.getElem?_eq_getElem hL]
      simp
    rw [e]
    unfold kvAt encKV
    have h3 : i % 2 = 0 ∨ i % 2 = 1 := by omega
    rw [if_pos hL]
    rcases h3 with h3 | h3 <;> simp [h3]
theorem heap_put (w : World) (R n : Nat) (os : Array Obj) (L L' : List (ByteArray × Nat)) (N : Nat) (h' : L'.length = N) (h : w.heap[R]? = some (.cells (kvRow L N) 109 (0, 0))) :
    (grow (putRowK encKV 2 (Sort.ahead w n) R 0 L'.toArray) os).heap[R]? = some (.cells (kvRow L' N) 109 (0, 0)) ∧ Touch [R] w (grow (putRowK encKV 2 (Sort.ahead w n) R 0 L'.toArray) os) := by
  have hlt : R < w.heap.size := Lib.lt_of_heap h
  have hsz : (putRowK encKV 2 (Sort.ahead w n) R 0 L'.toArray).heap.size = w.heap.size := by
    show (w.heap.modify R _).size = _
    simp
  constructor
  · show ((w.heap.modify R _) ++ os)[R]? = _
    rw [Array.getElem?_append_left (by simpa using hlt), Array.getElem?_modify, if_pos rfl, h]
    simp only [Option.map_some, onCells]
    rw [put_kv L L' N h']
  · refine ⟨rfl, rfl, rfl, ?_, fun k hk hm => ?_⟩
    · show w.heap.size ≤ ((w.heap.modify R _) ++ os).size
      simp
    · show ((w.heap.modify R _) ++ os)[k]? = _
      rw [Array.getElem?_append_left (by simpa using hk), Array.getElem?_modify, if_neg (fun e => hm (by simp [e]))]
theorem svK1 (n : Nat) (h : n = 0 ∨ n = 1) : Lib.swapperK n svE 25 = n + 1 := by rcases h with rfl | rfl <;> rfl
theorem sort_any (R N Bs : Nat) (L : List (ByteArray × Nat)) (hL : L.length = N) (hA : Apart L) (hN : N ≤ 4096) (w : World) (hrow : w.heap[R]? = some (.cells (kvRow L N) 109 (0, 0)))
    (hBs : w.cell? ⟨Bs, 0, none⟩ = some (.slice (some ⟨R, 0, none⟩) N N)) (hB1 : Bs < w.heap.size) (hB2 : Bs ≠ R) :
    Calls Tryz.prog 58 #[.iface 107 (.slice (some ⟨R, 0, none⟩) N N), .func (.func 59) #[] #[.pointer (some ⟨Bs, 0, none⟩)]] w fun e w' =>
      e = .returned (.tuple #[]) ∧ ∃ L', L'.Perm L ∧ Rising L' ∧ w'.heap[R]? = some (.cells (kvRow L' N) 109 (0, 0)) ∧ Touch [R] w w' := by
  by_cases h2 : 2 ≤ N
  · subst hL
    have hsz : L.toArray.size = L.length := by simp
    have h := sortKV R L.length Bs L.toArray (by rw [hsz]; exact h2) (by rw [hsz]; omega) w (kv_holds L w R hrow) (Lib.lt_of_heap hrow) (by rw [hsz]; exact hBs) hB1 hB2
    rw [hsz] at h
    have hperm : ∀ d' : Array (ByteArray × Nat), PermIn 0 L.length L.toArray d' → d'.toList.length = L.length ∧ d'.toList.Perm L := fun d' hp => by
      have hl : d'.toList.length = L.length := by rw [Array.length_toList, hp.1, hsz]
      have h3 : (List.take L.length d'.toList).Perm L := by
        have := hp.2.2
        rw [← hsz] at this
        simpa [hp.1] using this
      rw [List.take_of_length_le (by rw [hl]; exact Nat.le_refl _)] at h3
      exact ⟨hl, h3⟩
    refine h.mono fun e w' ⟨he, d', n, os, hp, hs, hw⟩ => ⟨he, d'.toList, (hperm d' hp).2, ?_, ?_⟩
    · refine rising_of_sorted hA (hperm d' hp).2 ?_
      rw [(hperm d' hp).1]
      simpa using hs
    · have hl := (hperm d' hp).1
      have := heap_put w R n os L d'.toList L.length hl hrow
      rw [hw]
      simpa using this
  · have hn : N = 0 ∨ N = 1 := by omega
    have key : ∀ f, (Tryz.prog.funcs.findIdx? (·.name == "internal/reflectlite" ++ ".Swapper$" ++ toString (Lib.swapperK N svE 25)) = some f) → Calls Tryz.prog 58 #[.iface 107 (.slice (some ⟨R, 0, none⟩) N N), .func (.func 59) #[] #[.pointer (some ⟨Bs, 0, none⟩)]] w fun e w' => e = .returned (.tuple #[]) ∧ ∃ os, w' = grow w os := fun f hf =>
      Any.sort_Slice_tiny Tryz.laysGg6 107 109 svT svE (by kernel_rfl) (by kernel_rfl) (by kernel_rfl) (by kernel_rfl) 25 (fun _ => by kernel_rfl) (some ⟨R, 0, none⟩) N N (by omega) f hf (.func 59) #[] #[.pointer (some ⟨Bs, 0, none⟩)] w
    have hri : Rising L := by
      unfold Rising
      match L, hL with
      | [], _ => exact List.Pairwise.nil
      | [p], _ => exact List.pairwise_singleton _ _
      | _ :: _ :: _, h => simp at h; omega
    have fin : ∀ os, (grow w os).heap[R]? = some (.cells (kvRow L N) 109 (0, 0)) ∧ Touch [R] w (grow w os) := fun os => by
      constructor
      · show (w.heap ++ os)[R]? = _
        rw [Array.getElem?_append_left (Lib.lt_of_heap hrow), hrow]
      · refine ⟨rfl, rfl, rfl, ?_, fun k hk _ => ?_⟩
        · show w.heap.size ≤ (w.heap ++ os).size
          simp
        · show (w.heap ++ os)[k]? = _
          rw [Array.getElem?_append_left hk]
    have done : ∀ f, (Tryz.prog.funcs.findIdx? (·.name == "internal/reflectlite" ++ ".Swapper$" ++ toString (Lib.swapperK N svE 25)) = some f) → Calls Tryz.prog 58 #[.iface 107 (.slice (some ⟨R, 0, none⟩) N N), .func (.func 59) #[] #[.pointer (some ⟨Bs, 0, none⟩)]] w fun e w' =>
      e = .returned (.tuple #[]) ∧ ∃ L', L'.Perm L ∧ Rising L' ∧ w'.heap[R]? = some (.cells (kvRow L' N) 109 (0, 0)) ∧ Touch [R] w w' := fun f hf => (key f hf).mono fun e w' ⟨he, os, hw⟩ => ⟨he, L, List.Perm.refl _, hri, by rw [hw]; exact fin os⟩
    rcases hn with rfl | rfl
    · exact done 102 (by rw [svK1 _ (Or.inl rfl)]; kernel_rfl)
    · exact done 103 (by rw [svK1 _ (Or.inr rfl)]; kernel_rfl)
end Go.Proofs.YtdkccihoecpcaaaGreatFmt
