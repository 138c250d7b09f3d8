/- The exports' classifier on ints, floats and errors; the remainder of two ints: the law walked. Conditions: none. -/
import Derived.Test.YtfmjeacjfnlhiaaGreatDoorProg
import Derived.WalkKit
import Derived.WalkLawsBesides
import Derived.WalkSpells
import Derived.Lib.Hide
import Derived.Below
import Derived.IntWalk
import Derived.Deep.QuietTactic
import Derived.BigQuiet
namespace Go.Proofs.YtfmjeacjfnlhiaaGreatDoor
open Go.RowKit Go
def Ret (v : Value) (w : World) (e : Ending) (w' : World) : Prop := e = .returned v ∧ w = w'
/-- It returns v; of what was there nothing has changed. -/
def RetB (v : Value) (w : World) (e : Ending) (w' : World) : Prop := e = .returned v ∧ Below w.heap.size w w'
theorem ret_bool {b c : Bool} (h : b = c) : Ending.returned (.bool b) = .returned (.bool c) := by rw [h]
theorem ret_u64 {b c : Int} (h : b = c) : Ending.returned (.int .u64 b) = .returned (.int .u64 c) := by rw [h]
theorem bcell {W w1 : World} (hb : Below W.heap.size W w1) : (∀ b o, b < W.heap.size → w1.cell? ⟨b, o, none⟩ = W.cell? ⟨b, o, none⟩) ∧ (∀ b o, b < W.heap.size → w1.frozen? ⟨b, o, none⟩ = W.frozen? ⟨b, o, none⟩) :=
  ⟨fun b o h => hb.cell (p := ⟨b, o, none⟩) h, fun b o h => hb.frozen (p := ⟨b, o, none⟩) h⟩
@[go_sem] theorem as_int_num (v : Value) (w : World) : (Instr.typeAssert (.iface 3 v) 20 69 true).run Tryz.prog w = .ok (.tuple #[.string ByteArray.empty, .bool false]) w := by kernel_rfl
@[go_sem] theorem as_int_int (v : Value) (w : World) : (Instr.typeAssert (.iface 3 v) 20 3 true).run Tryz.prog w = .ok (.tuple #[v, .bool true]) w := by kernel_rfl
@[go_sem] theorem as_int_f64 (v : Value) (w : World) : (Instr.typeAssert (.iface 3 v) 20 22 true).run Tryz.prog w = .ok (.tuple #[.float .f64 0, .bool false]) w := by kernel_rfl
@[go_sem] theorem as_int_big (v : Value) (w : World) : (Instr.typeAssert (.iface 3 v) 20 35 true).run Tryz.prog w = .ok (.tuple #[.pointer none, .bool false]) w := by kernel_rfl
@[go_sem] theorem as_int_str (v : Value) (w : World) : (Instr.typeAssert (.iface 3 v) 20 9 true).run Tryz.prog w = .ok (.tuple #[.string ByteArray.empty, .bool false]) w := by kernel_rfl
@[go_sem] theorem as_int_arr (v : Value) (w : World) : (Instr.typeAssert (.iface 3 v) 20 44 true).run Tryz.prog w = .ok (.tuple #[.slice none 0 0, .bool false]) w := by kernel_rfl
@[go_sem] theorem as_int_map (v : Value) (w : World) : (Instr.typeAssert (.iface 3 v) 20 65 true).run Tryz.prog w = .ok (.tuple #[.map none, .bool false]) w := by kernel_rfl
@[go_sem] theorem as_int_bool (v : Value) (w : World) : (Instr.typeAssert (.iface 3 v) 20 4 true).run Tryz.prog w = .ok (.tuple #[.bool false, .bool false]) w := by kernel_rfl
@[go_sem] theorem as_f64_num (v : Value) (w : World) : (Instr.typeAssert (.iface 22 v) 20 69 true).run Tryz.prog w = .ok (.tuple #[.string ByteArray.empty, .bool false]) w := by kernel_rfl
@[go_sem] theorem as_f64_int (v : Value) (w : World) : (Instr.typeAssert (.iface 22 v) 20 3 true).run Tryz.prog w = .ok (.tuple #[.int .i64 0, .bool false]) w := by kernel_rfl
@[go_sem] theorem as_f64_f64 (v : Value) (w : World) : (Instr.typeAssert (.iface 22 v) 20 22 true).run Tryz.prog w = .ok (.tuple #[v, .bool true]) w := by kernel_rfl
@[go_sem] theorem as_f64_big (v : Value) (w : World) : (Instr.typeAssert (.iface 22 v) 20 35 true).run Tryz.prog w = .ok (.tuple #[.pointer none, .bool false]) w := by kernel_rfl
@[go_sem] theorem as_f64_str (v : Value) (w : World) : (Instr.typeAssert (.iface 22 v) 20 9 true).run Tryz.prog w = .ok (.tuple #[.string ByteArray.empty, .bool false]) w := by kernel_rfl
@[go_sem] theorem as_f64_arr (v : Value) (w : World) : (Instr.typeAssert (.iface 22 v) 20 44 true).run Tryz.prog w = .ok (.tuple #[.slice none 0 0, .bool false]) w := by kernel_rfl
@[go_sem] theorem as_f64_map (v : Value) (w : World) : (Instr.typeAssert (.iface 22 v) 20 65 true).run Tryz.prog w = .ok (.tuple #[.map none, .bool false]) w := by kernel_rfl
@[go_sem] theorem as_f64_bool (v : Value) (w : World) : (Instr.typeAssert (.iface 22 v) 20 4 true).run Tryz.prog w = .ok (.tuple #[.bool false, .bool false]) w := by kernel_rfl
@[go_sem] theorem as_big_num (v : Value) (w : World) : (Instr.typeAssert (.iface 35 v) 20 69 true).run Tryz.prog w = .ok (.tuple #[.string ByteArray.empty, .bool false]) w := by kernel_rfl
@[go_sem] theorem as_big_int (v : Value) (w : World) : (Instr.typeAssert (.iface 35 v) 20 3 true).run Tryz.prog w = .ok (.tuple #[.int .i64 0, .bool false]) w := by kernel_rfl
@[go_sem] theorem as_big_f64 (v : Value) (w : World) : (Instr.typeAssert (.iface 35 v) 20 22 true).run Tryz.prog w = .ok (.tuple #[.float .f64 0, .bool false]) w := by kernel_rfl
@[go_sem] theorem as_big_big (v : Value) (w : World) : (Instr.typeAssert (.iface 35 v) 20 35 true).run Tryz.prog w = .ok (.tuple #[v, .bool true]) w := by kernel_rfl
@[go_sem] theorem as_big_str (v : Value) (w : World) : (Instr.typeAssert (.iface 35 v) 20 9 true).run Tryz.prog w = .ok (.tuple #[.string ByteArray.empty, .bool false]) w := by kernel_rfl
@[go_sem] theorem as_big_arr (v : Value) (w : World) : (Instr.typeAssert (.iface 35 v) 20 44 true).run Tryz.prog w = .ok (.tuple #[.slice none 0 0, .bool false]) w := by kernel_rfl
@[go_sem] theorem as_big_map (v : Value) (w : World) : (Instr.typeAssert (.iface 35 v) 20 65 true).run Tryz.prog w = .ok (.tuple #[.map none, .bool false]) w := by kernel_rfl
@[go_sem] theorem as_big_bool (v : Value) (w : World) : (Instr.typeAssert (.iface 35 v) 20 4 true).run Tryz.prog w = .ok (.tuple #[.bool false, .bool false]) w := by kernel_rfl
@[go_sem] theorem as_str_num (v : Value) (w : World) : (Instr.typeAssert (.iface 9 v) 20 69 true).run Tryz.prog w = .ok (.tuple #[.string ByteArray.empty, .bool false]) w := by kernel_rfl
@[go_sem] theorem as_str_int (v : Value) (w : World) : (Instr.typeAssert (.iface 9 v) 20 3 true).run Tryz.prog w = .ok (.tuple #[.int .i64 0, .bool false]) w := by kernel_rfl
@[go_sem] theorem as_str_f64 (v : Value) (w : World) : (Instr.typeAssert (.iface 9 v) 20 22 true).run Tryz.prog w = .ok (.tuple #[.float .f64 0, .bool false]) w := by kernel_rfl
@[go_sem] theorem as_str_big (v : Value) (w : World) : (Instr.typeAssert (.iface 9 v) 20 35 true).run Tryz.prog w = .ok (.tuple #[.pointer none, .bool false]) w := by kernel_rfl
@[go_sem] theorem as_str_str (v : Value) (w : World) : (Instr.typeAssert (.iface 9 v) 20 9 true).run Tryz.prog w = .ok (.tuple #[v, .bool true]) w := by kernel_rfl
@[go_sem] theorem as_str_arr (v : Value) (w : World) : (Instr.typeAssert (.iface 9 v) 20 44 true).run Tryz.prog w = .ok (.tuple #[.slice none 0 0, .bool false]) w := by kernel_rfl
@[go_sem] theorem as_str_map (v : Value) (w : World) : (Instr.typeAssert (.iface 9 v) 20 65 true).run Tryz.prog w = .ok (.tuple #[.map none, .bool false]) w := by kernel_rfl
@[go_sem] theorem as_str_bool (v : Value) (w : World) : (Instr.typeAssert (.iface 9 v) 20 4 true).run Tryz.prog w = .ok (.tuple #[.bool false, .bool false]) w := by kernel_rfl
@[go_sem] theorem as_arr_num (v : Value) (w : World) : (Instr.typeAssert (.iface 44 v) 20 69 true).run Tryz.prog w = .ok (.tuple #[.string ByteArray.empty, .bool false]) w := by kernel_rfl
@[go_sem] theorem as_arr_int (v : Value) (w : World) : (Instr.typeAssert (.iface 44 v) 20 3 true).run Tryz.prog w = .ok (.tuple #[.int .i64 0, .bool false]) w := by kernel_rfl
@[go_sem] theorem as_arr_f64 (v : Value) (w : World) : (Instr.typeAssert (.iface 44 v) 20 22 true).run Tryz.prog w = .ok (.tuple #[.float .f64 0, .bool false]) w := by kernel_rfl
@[go_sem] theorem as_arr_big (v : Value) (w : World) : (Instr.typeAssert (.iface 44 v) 20 35 true).run Tryz.prog w = .ok (.tuple #[.pointer none, .bool false]) w := by kernel_rfl
@[go_sem] theorem as_arr_str (v : Value) (w : World) : (Instr.typeAssert (.iface 44 v) 20 9 true).run Tryz.prog w = .ok (.tuple #[.string ByteArray.empty, .bool false]) w := by kernel_rfl
@[go_sem] theorem as_arr_arr (v : Value) (w : World) : (Instr.typeAssert (.iface 44 v) 20 44 true).run Tryz.prog w = .ok (.tuple #[v, .bool true]) w := by kernel_rfl
@[go_sem] theorem as_arr_map (v : Value) (w : World) : (Instr.typeAssert (.iface 44 v) 20 65 true).run Tryz.prog w = .ok (.tuple #[.map none, .bool false]) w := by kernel_rfl
@[go_sem] theorem as_arr_bool (v : Value) (w : World) : (Instr.typeAssert (.iface 44 v) 20 4 true).run Tryz.prog w = .ok (.tuple #[.bool false, .bool false]) w := by kernel_rfl
@[go_sem] theorem as_zmod_int (v : Value) (w : World) : (Instr.typeAssert (.iface 47 v) 20 3 true).run Tryz.prog w = .ok (.tuple #[.int .i64 0, .bool false]) w := by kernel_rfl
@[go_sem] theorem as_zmod_f64 (v : Value) (w : World) : (Instr.typeAssert (.iface 47 v) 20 22 true).run Tryz.prog w = .ok (.tuple #[.float .f64 0, .bool false]) w := by kernel_rfl
@[go_sem] theorem as_zmod_big (v : Value) (w : World) : (Instr.typeAssert (.iface 47 v) 20 35 true).run Tryz.prog w = .ok (.tuple #[.pointer none, .bool false]) w := by kernel_rfl
@[go_sem] theorem as_zmod_str (v : Value) (w : World) : (Instr.typeAssert (.iface 47 v) 20 9 true).run Tryz.prog w = .ok (.tuple #[.string ByteArray.empty, .bool false]) w := by kernel_rfl
@[go_sem] theorem as_zmod_arr (v : Value) (w : World) : (Instr.typeAssert (.iface 47 v) 20 44 true).run Tryz.prog w = .ok (.tuple #[.slice none 0 0, .bool false]) w := by kernel_rfl
@[go_sem] theorem as_zmod_zdiv (v : Value) (w : World) : (Instr.typeAssert (.iface 47 v) 20 46 true).run Tryz.prog w = .ok (.tuple #[.pointer none, .bool false]) w := by kernel_rfl
@[go_sem] theorem as_zmod_zmod (v : Value) (w : World) : (Instr.typeAssert (.iface 47 v) 20 47 true).run Tryz.prog w = .ok (.tuple #[v, .bool true]) w := by kernel_rfl
@[go_sem] theorem as_zdiv_int (v : Value) (w : World) : (Instr.typeAssert (.iface 46 v) 20 3 true).run Tryz.prog w = .ok (.tuple #[.int .i64 0, .bool false]) w := by kernel_rfl
@[go_sem] theorem as_zdiv_f64 (v : Value) (w : World) : (Instr.typeAssert (.iface 46 v) 20 22 true).run Tryz.prog w = .ok (.tuple #[.float .f64 0, .bool false]) w := by kernel_rfl
@[go_sem] theorem as_zdiv_big (v : Value) (w : World) : (Instr.typeAssert (.iface 46 v) 20 35 true).run Tryz.prog w = .ok (.tuple #[.pointer none, .bool false]) w := by kernel_rfl
@[go_sem] theorem as_zdiv_str (v : Value) (w : World) : (Instr.typeAssert (.iface 46 v) 20 9 true).run Tryz.prog w = .ok (.tuple #[.string ByteArray.empty, .bool false]) w := by kernel_rfl
@[go_sem] theorem as_zdiv_arr (v : Value) (w : World) : (Instr.typeAssert (.iface 46 v) 20 44 true).run Tryz.prog w = .ok (.tuple #[.slice none 0 0, .bool false]) w := by kernel_rfl
@[go_sem] theorem as_zdiv_zdiv (v : Value) (w : World) : (Instr.typeAssert (.iface 46 v) 20 46 true).run Tryz.prog w = .ok (.tuple #[v, .bool true]) w := by kernel_rfl
@[go_sem] theorem as_zdiv_zmod (v : Value) (w : World) : (Instr.typeAssert (.iface 46 v) 20 47 true).run Tryz.prog w = .ok (.tuple #[.pointer none, .bool false]) w := by kernel_rfl
@[go_sem] theorem run_store_float {P : Program} (w : World) (a : Addr) (m : Mode) (k : FloatKind) (x : Nat) : (store a (.float k x) m).run P w = stored P w a (.float k x) m := run_store P w a _ m rfl
theorem u64_in (x : Int) (h : 0 ≤ x ∧ x < 18446744073709551616) : IntKind.u64.wrap x = x := by
  simp only [IntKind.wrap, IntKind.bits, IntKind.signed]
  have h2 : (2 : Int) ^ 64 = 18446744073709551616 := by decide
  simp only [h2, Bool.false_and, Bool.false_eq_true, if_false]
  omega
theorem mag_any (x : Int) (h : -9223372036854775808 ≤ x ∧ x ≤ 9223372036854775807) (w : World) : Calls Tryz.prog 6 #[.int .i64 x] w (Ret (.int .u64 x.natAbs) w) := by
  by_cases hn : x < 0
  · have h1 : IntKind.i64.wrap (x + 1) = x + 1 := IntWalk.i64_in _ (by omega)
    have h2 : IntKind.i64.wrap (-(x + 1)) = -(x + 1) := IntWalk.i64_in _ (by omega)
    have h2' : IntKind.i64.wrap (0 - (x + 1)) = -(x + 1) := by rw [IntWalk.i64_in _ (by omega)]; omega
    have h3 : IntKind.u64.wrap (-(x + 1)) = -(x + 1) := u64_in _ (by omega)
    have h4 : IntKind.u64.wrap (-(x + 1) + 1) = x.natAbs := by rw [u64_in _ (by omega)]; omega
    go_enter Tryz.func6, Tryz.ntmps6
    go_wp2
    go_ret
    exact ⟨ret_u64 (by first | rfl | (simp [h4]; done) | (simp; omega)), rfl⟩
  · have h3 : IntKind.u64.wrap x = x.natAbs := by rw [u64_in _ (by omega)]; omega
    go_enter Tryz.func6, Tryz.ntmps6
    go_wp2
    go_ret
    exact ⟨ret_u64 (by first | rfl | (simp [h3]; done) | (simp; omega)), rfl⟩
theorem below8 {B : Nat} {a w : World} (h : Below B a w) (b : Nat) (hb : B ≤ b) (v0 v1 v2 v3 v4 v5 v6 v7 : Value) :
    Below B a ((((((((w.setCell ⟨b, 0, none⟩ v0).setCell ⟨b, 1, none⟩ v1).setCell ⟨b, 2, none⟩ v2).setCell ⟨b, 3, none⟩ v3).setCell ⟨b, 4, none⟩ v4).setCell ⟨b, 5, none⟩ v5).setCell ⟨b, 6, none⟩ v6).setCell ⟨b, 7, none⟩ v7) :=
  (((((((h.setCell (p := ⟨b, 0, none⟩) hb v0).setCell (p := ⟨b, 1, none⟩) hb v1).setCell (p := ⟨b, 2, none⟩) hb v2).setCell (p := ⟨b, 3, none⟩) hb v3).setCell (p := ⟨b, 4, none⟩) hb v4).setCell (p := ⟨b, 5, none⟩) hb v5).setCell (p := ⟨b, 6, none⟩) hb v6).setCell (p := ⟨b, 7, none⟩) hb v7
set_option maxRecDepth 100000 in
theorem classify_int (n : Int) (w : World) : Calls Tryz.prog 12 #[.iface 3 (.int .i64 n)] w (RetB (.agg #[.int .i64 2, .int .i64 n, .float .f64 0, .string ⟨#[]⟩, .slice none 0 0, .int .i64 0, .bool false, .int .u64 0]) w) := by
  go_enter Tryz.func12, Tryz.ntmps12
  go_wp2
  exact bodyPost_ret (v := .agg #[.int .i64 2, .int .i64 n, .float .f64 0, .string ⟨#[]⟩, .slice none 0 0, .int .i64 0, .bool false, .int .u64 0]) (by simp [results, Tryz.results12, go_sem]) rfl ⟨rfl, (Below.refl _ _).alloc (Nat.le_refl _) _⟩
set_option maxRecDepth 100000 in
theorem classify_f64 (x : Nat) (w : World) : Calls Tryz.prog 12 #[.iface 22 (.float .f64 x)] w (RetB (.agg #[.int .i64 3, .int .i64 0, .float .f64 x, .string ⟨#[]⟩, .slice none 0 0, .int .i64 0, .bool false, .int .u64 0]) w) := by
  go_enter Tryz.func12, Tryz.ntmps12
  go_wp2
  exact bodyPost_ret (v := .agg #[.int .i64 3, .int .i64 0, .float .f64 x, .string ⟨#[]⟩, .slice none 0 0, .int .i64 0, .bool false, .int .u64 0]) (by simp [results, Tryz.results12, go_sem]) rfl ⟨rfl, (Below.refl _ _).alloc (Nat.le_refl _) _⟩
set_option maxRecDepth 100000 in
theorem classify_zmod (a : Addr) (w : World) : Calls Tryz.prog 12 #[.iface 47 (.pointer (some a))] w (RetB (.agg #[.int .i64 8, .int .i64 0, .float .f64 0, .string ⟨#[]⟩, .slice none 0 0, .int .i64 0, .bool false, .int .u64 0]) w) := by
  go_enter Tryz.func12, Tryz.ntmps12
  go_wp2
  exact bodyPost_ret (v := .agg #[.int .i64 8, .int .i64 0, .float .f64 0, .string ⟨#[]⟩, .slice none 0 0, .int .i64 0, .bool false, .int .u64 0]) (by simp [results, Tryz.results12, go_sem]) rfl ⟨rfl, (Below.refl _ _).alloc (Nat.le_refl _) _⟩
set_option maxRecDepth 100000 in
theorem classify_zdiv (a : Addr) (w : World) : Calls Tryz.prog 12 #[.iface 46 (.pointer (some a))] w (RetB (.agg #[.int .i64 7, .int .i64 0, .float .f64 0, .string ⟨#[]⟩, .slice none 0 0, .int .i64 0, .bool false, .int .u64 0]) w) := by
  go_enter Tryz.func12, Tryz.ntmps12
  go_wp2
  exact bodyPost_ret (v := .agg #[.int .i64 7, .int .i64 0, .float .f64 0, .string ⟨#[]⟩, .slice none 0 0, .int .i64 0, .bool false, .int .u64 0]) (by simp [results, Tryz.results12, go_sem]) rfl ⟨rfl, (Below.refl _ _).alloc (Nat.le_refl _) _⟩
theorem ret_iface {t : TypeId} {k : IntKind} {a b : Int} (h : a = b) : Ending.returned (.iface t (.int k a)) = .returned (.iface t (.int k b)) := by rw [h]
theorem tmod_facts (l r : Int) : (l.tmod r).natAbs = l.natAbs % r.natAbs ∧ (0 ≤ l → 0 ≤ l.tmod r) ∧ (l ≤ 0 → l.tmod r ≤ 0) := by
  refine ⟨?_, fun h => Int.tmod_nonneg r h, fun h => ?_⟩
  · have h : ∀ m n : Nat, (((m : Nat) : Int) % ((n : Nat) : Int)).natAbs = m % n := fun m n => by rw [← Int.natCast_emod, Int.natAbs_natCast]
    rcases l with m | m <;> rcases r with n | n <;> simp [Int.tmod]
    · exact h m n
    · exact h m (n + 1)
    · exact h (m + 1) n
    · exact h (m + 1) (n + 1)
  · have := Int.tmod_nonneg r (show 0 ≤ -l by omega)
    rw [Int.neg_tmod] at this
    omega
theorem tmod_range (l r : Int) (hl : -9223372036854775808 ≤ l ∧ l ≤ 9223372036854775807) : -9223372036854775808 ≤ l.tmod r ∧ l.tmod r ≤ 9223372036854775807 := by
  obtain ⟨h1, h2, h3⟩ := tmod_facts l r
  have : l.natAbs % r.natAbs ≤ l.natAbs := Nat.mod_le _ _
  by_cases h : 0 ≤ l
  · have := h2 h; omega
  · have := h3 (by omega); omega
/-- An error of a kind in a new block. -/
def ErrPost (t : TypeId) (w : World) (e : Ending) (w' : World) : Prop := ∃ a, e = .returned (.iface t (.pointer (some a))) ∧ Below w.heap.size w w'
end Go.Proofs.YtfmjeacjfnlhiaaGreatDoor

