/- The law's own search: hasAt, containsStr, and the bounds. Conditions: at most 1048576 bytes. -/
import Derived.Test.YtfmjeacjfnlhiaaGreatDoorCuts
import Derived.Outline
namespace Go.Proofs.YtfmjeacjfnlhiaaGreatDoor
open Go.RowKit Go
set_option maxRecDepth 100000 in
set_option maxHeartbeats 1600000 in
theorem hasAt_any (s t : ByteArray) (p : Nat) (hs : s.size ≤ 1048576) (ht : p + t.size ≤ s.size) (w : World) :
    Calls Tryz.prog 10 #[.string s, .int .i64 (p : Int), .string t] w (RetD (.bool (occ s t p)) w) := by
  have i1 : (p : Int) + t.size ≤ s.size := by omega
  have i2 : (t.size : Int) ≤ (s.size : Int) - p := by omega
  go_enter Tryz.func10, Tryz.ntmps10
  go_wp2
  go_loopw [7] (fun i wr => ∃ k : Nat, k ≤ t.size ∧ i = .int .i64 (k : Int) ∧ Hid (∀ j (h1 : p + j < s.size) (h2 : j < t.size), j < k → s[p + j] = t[j]) ∧ Hid (∃ nq, wr = w.drewN nq)) (fun i _ => t.size - (intOf i).toNat)
  case atStart => exact ⟨0, Nat.zero_le _, rfl, Lib.hid (fun j _ _ h => by omega), Lib.hid ⟨0, rfl⟩⟩
  case round =>
    obtain ⟨k, hk, rfl, HJ, HW⟩ := hrel
    by_cases hlt : k < t.size
    · obtain ⟨y, hy⟩ : ∃ y, y = p + k := ⟨_, rfl⟩
      have hlt2 : y < s.size := by omega
      have hsum : IntKind.i64.wrap ((p : Int) + k) = (y : Int) := by rw [IntWalk.i64_in _ (by omega)]; omega
      have HY := Lib.hid hy
      by_cases he : s[y] = t[k]
      · have HX := Lib.hid (show ∀ j (h1 : p + j < s.size) (h2 : j < t.size), j < k + 1 → s[p + j] = t[j] from fun j h1 h2 h3 => by
          by_cases e : j = k
          · subst e; rw [← he]; congr 1; exact HY.out.symm
          · exact HJ.out j h1 h2 (by omega))
        have hee : ((s[y].toNat : Int) != (t[k].toNat : Int)) = false := by rw [he]; simp
        clear hy he
        go_wp2
        go_quiet (fail)
        go_wp2
        go_roundw
        case rel => exact ⟨k + 1, by omega, by go_num, HX, Lib.hid (drew_more HW.out _)⟩
        case measure => simp [intOf]; omega
      · have HX := Lib.hid (show occ s t p = false from by subst hy; exact occ_no s t p k ht hlt2 hlt he)
        have hne : ((s[y].toNat : Int) != (t[k].toNat : Int)) = true := by
          rw [bne_iff_ne]
          intro e
          exact he (UInt8.toNat.inj (by omega))
        clear he hy
        go_wp2
        go_quiet (fail)
        go_wp2
        go_ret
        exact ⟨by rw [HX.out]; rfl, drew_more HW.out _⟩
    · have HX := Lib.hid (show occ s t p = true from occ_yes s t p ht (fun j h1 h2 => HJ.out j h1 h2 (by omega)))
      go_wp2
      go_ret
      exact ⟨by rw [HX.out]; rfl, HW.out⟩
set_option maxRecDepth 100000 in
set_option maxHeartbeats 1600000 in
theorem contains_no (s t : ByteArray) (hs : s.size ≤ 1048576) (ht : t.size ≤ 1048576) (hn : ∀ j, j + t.size ≤ s.size → occ s t j = false) (w : World) :
    Calls Tryz.prog 11 #[.string s, .string t] w (RetD (.bool false) w) := by
  have HN := Lib.hid hn
  clear hn
  go_enter Tryz.func11, Tryz.ntmps11
  go_wp2
  go_loopw [5] (fun i wr => ∃ k : Nat, k ≤ s.size + 1 ∧ i = .int .i64 (k : Int) ∧ Hid (∃ nq, wr = w.drewN nq)) (fun i _ => s.size + 1 - (intOf i).toNat)
  case atStart => exact ⟨0, Nat.zero_le _, rfl, Lib.hid ⟨0, rfl⟩⟩
  case round =>
    obtain ⟨k, hk, rfl, HW⟩ := hrel
    by_cases hle : k + t.size ≤ s.size
    · have hi : (k : Int) + t.size ≤ s.size := by omega
      have HC := Lib.hid (show ∀ w, Calls Tryz.prog 10 #[.string s, .int .i64 (k : Int), .string t] w (RetD (.bool false) w) from fun w => by
        have := hasAt_any s t k hs hle w
        rwa [HN.out k hle] at this)
      go_wp2_with (go_at_call 10; refine (HC.out _).mono ?_; rintro e w' ⟨rfl, nq, rfl⟩)
      go_roundw
      case rel => exact ⟨k + 1, by omega, by go_num, Lib.hid (drew_more HW.out _)⟩
      case measure => simp [intOf]; omega
    · have hi : (s.size : Int) < (k : Int) + t.size := by omega
      go_wp2
      go_ret
      exact ⟨rfl, HW.out⟩
set_option maxRecDepth 100000 in
theorem fits_yes (l r : ByteArray) (h1 : l.size ≤ 65536) (h2 : r.size ≤ 4096) (w : World) : Calls Tryz.prog 8 #[.string l, .string r] w (Ret (.bool true) w) := by
  go_enter Tryz.func8, Tryz.ntmps8
  go_wp2
  go_ret
  exact ⟨ret_bool (by first | rfl | (simp; done) | (simp; omega)), rfl⟩
set_option maxRecDepth 100000 in
theorem fits_no (l r : ByteArray) (h : ¬ (l.size ≤ 65536 ∧ r.size ≤ 4096)) (w : World) : Calls Tryz.prog 8 #[.string l, .string r] w (Ret (.bool false) w) := by
  by_cases h1 : l.size ≤ 65536
  · have h2 : ¬ r.size ≤ 4096 := fun e => h ⟨h1, e⟩
    clear h
    go_enter Tryz.func8, Tryz.ntmps8
    go_wp2
    go_ret
    exact ⟨ret_bool (by first | rfl | (simp; done) | (simp; omega)), rfl⟩
  · clear h
    go_enter Tryz.func8, Tryz.ntmps8
    go_wp2
    go_ret
    exact ⟨ret_bool (by first | rfl | (simp; done) | (simp; omega)), rfl⟩
end Go.Proofs.YtfmjeacjfnlhiaaGreatDoor
