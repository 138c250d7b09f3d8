/- Two rows that hold the same, where one is known by its cells alone. Conditions: at most 2 to the 47 bytes. -/
import Derived.Test.YtdkccihoecpcaaaGreatFmtOwn
namespace Go.Proofs.YtdkccihoecpcaaaGreatFmt
open Go.RowKit Go
/-- v is a row whose cells read l. -/
def Rd (v : Value) (l : List UInt8) (w : World) : Prop := ∃ ao c, v = .slice ao l.length c ∧ ∀ k (hk : k < l.length), ∃ g, ao = some ⟨g, 0, none⟩ ∧ w.cell? ⟨g, k, none⟩ = some (.int .u8 ((l[k]'hk).toNat : Int))
theorem rd_of_own {B : Nat} {v : Value} {l : List UInt8} {w : World} (h : Own B v l w) : Rd v l w := by
  obtain ⟨ao, c, rfl⟩ := own_slice h
  exact ⟨ao, c, rfl, fun k hk => own_cell h k hk⟩
set_option maxRecDepth 100000 in
set_option maxHeartbeats 1600000 in
theorem sameRR (l : List UInt8) (u v : Value) (w : World) (hl : l.length ≤ 140737488355328) (h : Rd u l w) (h2 : Rd v l w) :
    Calls Tryz.prog 16 #[u, v] w fun e w' => e = .returned (.bool true) ∧ ∃ n, w' = w.drewN n := by
  obtain ⟨ao, c, rfl, hc⟩ := h
  obtain ⟨bo, d, rfl, hd⟩ := h2
  have HC := Lib.hid hc
  have HD := Lib.hid hd
  clear hc hd
  go_enter Tryz.func16, Tryz.ntmps16
  go_wp2
  go_loopw [5] (fun i wr => ∃ (k nq : Nat), k ≤ l.length ∧ i = .int .i64 k ∧ wr = w.drewN nq) (fun i _ => l.length - (intOf i).toNat)
  case atStart => exact ⟨0, 0, Nat.zero_le _, rfl, rfl⟩
  case round =>
    obtain ⟨k, nq, hk, rfl, rfl⟩ := hrel
    by_cases hlt : k < l.length
    · obtain ⟨g, rfl, hc⟩ := HC.out k hlt
      obtain ⟨g2, rfl, hd⟩ := HD.out k hlt
      generalize l[k] = x at hc hd
      go_wp2
      go_quiet (fail)
      go_wp2
      go_roundw
      case rel => exact ⟨k + 1, _, by omega, by go_num, rfl⟩
      case measure => simp [intOf]; omega
    · go_wp2
      go_ret
      exact ⟨rfl, _, rfl⟩
end Go.Proofs.YtdkccihoecpcaaaGreatFmt
