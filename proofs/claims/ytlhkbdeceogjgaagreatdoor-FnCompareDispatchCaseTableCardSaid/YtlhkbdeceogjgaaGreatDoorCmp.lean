/- What Compare (through binopTypeSwitch) answers on ints, floats, strings, booleans and null: contracts of the walk. Conditions: none. -/
import Derived.Test.YtlhkbdeceogjgaaGreatDoorProg
import Derived.WalkKit
import Derived.WalkLawsBesides
import Derived.WalkSpells
import Derived.Lib.Hide
namespace Go.Proofs.YtlhkbdeceogjgaaGreatDoor
open Go.RowKit Go
/-! What a type assertion answers at the listed dynamic types: closed facts. -/
@[go_sem] theorem as_nil_num (w : World) : (Instr.typeAssert .nilIface 20 77 true).run Tryz.prog w = .ok (.tuple #[.string ByteArray.empty, .bool false]) w := by kernel_rfl
@[go_sem] theorem as_nil_int (w : World) : (Instr.typeAssert .nilIface 20 3 true).run Tryz.prog w = .ok (.tuple #[.int .i64 0, .bool false]) w := by kernel_rfl
@[go_sem] theorem as_nil_f64 (w : World) : (Instr.typeAssert .nilIface 20 22 true).run Tryz.prog w = .ok (.tuple #[.float .f64 0, .bool false]) w := by kernel_rfl
@[go_sem] theorem as_nil_big (w : World) : (Instr.typeAssert .nilIface 20 91 true).run Tryz.prog w = .ok (.tuple #[.pointer none, .bool false]) w := by kernel_rfl
@[go_sem] theorem as_nil_str (w : World) : (Instr.typeAssert .nilIface 20 9 true).run Tryz.prog w = .ok (.tuple #[.string ByteArray.empty, .bool false]) w := by kernel_rfl
@[go_sem] theorem as_nil_arr (w : World) : (Instr.typeAssert .nilIface 20 68 true).run Tryz.prog w = .ok (.tuple #[.slice none 0 0, .bool false]) w := by kernel_rfl
@[go_sem] theorem as_nil_map (w : World) : (Instr.typeAssert .nilIface 20 105 true).run Tryz.prog w = .ok (.tuple #[.map none, .bool false]) w := by kernel_rfl
@[go_sem] theorem as_nil_bool (w : World) : (Instr.typeAssert .nilIface 20 4 true).run Tryz.prog w = .ok (.tuple #[.bool false, .bool false]) w := by kernel_rfl
@[go_sem] theorem as_int_num (v : Value) (w : World) : (Instr.typeAssert (.iface 3 v) 20 77 true).run Tryz.prog w = .ok (.tuple #[.string ByteArray.empty, .bool false]) w := by kernel_rfl
@[go_sem] theorem as_int_int (v : Value) (w : World) : (Instr.typeAssert (.iface 3 v) 20 3 true).run Tryz.prog w = .ok (.tuple #[v, .bool true]) w := by kernel_rfl
@[go_sem] theorem as_int_f64 (v : Value) (w : World) : (Instr.typeAssert (.iface 3 v) 20 22 true).run Tryz.prog w = .ok (.tuple #[.float .f64 0, .bool false]) w := by kernel_rfl
@[go_sem] theorem as_int_big (v : Value) (w : World) : (Instr.typeAssert (.iface 3 v) 20 91 true).run Tryz.prog w = .ok (.tuple #[.pointer none, .bool false]) w := by kernel_rfl
@[go_sem] theorem as_int_str (v : Value) (w : World) : (Instr.typeAssert (.iface 3 v) 20 9 true).run Tryz.prog w = .ok (.tuple #[.string ByteArray.empty, .bool false]) w := by kernel_rfl
@[go_sem] theorem as_int_arr (v : Value) (w : World) : (Instr.typeAssert (.iface 3 v) 20 68 true).run Tryz.prog w = .ok (.tuple #[.slice none 0 0, .bool false]) w := by kernel_rfl
@[go_sem] theorem as_int_map (v : Value) (w : World) : (Instr.typeAssert (.iface 3 v) 20 105 true).run Tryz.prog w = .ok (.tuple #[.map none, .bool false]) w := by kernel_rfl
@[go_sem] theorem as_int_bool (v : Value) (w : World) : (Instr.typeAssert (.iface 3 v) 20 4 true).run Tryz.prog w = .ok (.tuple #[.bool false, .bool false]) w := by kernel_rfl
@[go_sem] theorem as_f64_num (v : Value) (w : World) : (Instr.typeAssert (.iface 22 v) 20 77 true).run Tryz.prog w = .ok (.tuple #[.string ByteArray.empty, .bool false]) w := by kernel_rfl
@[go_sem] theorem as_f64_int (v : Value) (w : World) : (Instr.typeAssert (.iface 22 v) 20 3 true).run Tryz.prog w = .ok (.tuple #[.int .i64 0, .bool false]) w := by kernel_rfl
@[go_sem] theorem as_f64_f64 (v : Value) (w : World) : (Instr.typeAssert (.iface 22 v) 20 22 true).run Tryz.prog w = .ok (.tuple #[v, .bool true]) w := by kernel_rfl
@[go_sem] theorem as_f64_big (v : Value) (w : World) : (Instr.typeAssert (.iface 22 v) 20 91 true).run Tryz.prog w = .ok (.tuple #[.pointer none, .bool false]) w := by kernel_rfl
@[go_sem] theorem as_f64_str (v : Value) (w : World) : (Instr.typeAssert (.iface 22 v) 20 9 true).run Tryz.prog w = .ok (.tuple #[.string ByteArray.empty, .bool false]) w := by kernel_rfl
@[go_sem] theorem as_f64_arr (v : Value) (w : World) : (Instr.typeAssert (.iface 22 v) 20 68 true).run Tryz.prog w = .ok (.tuple #[.slice none 0 0, .bool false]) w := by kernel_rfl
@[go_sem] theorem as_f64_map (v : Value) (w : World) : (Instr.typeAssert (.iface 22 v) 20 105 true).run Tryz.prog w = .ok (.tuple #[.map none, .bool false]) w := by kernel_rfl
@[go_sem] theorem as_f64_bool (v : Value) (w : World) : (Instr.typeAssert (.iface 22 v) 20 4 true).run Tryz.prog w = .ok (.tuple #[.bool false, .bool false]) w := by kernel_rfl
@[go_sem] theorem as_str_num (v : Value) (w : World) : (Instr.typeAssert (.iface 9 v) 20 77 true).run Tryz.prog w = .ok (.tuple #[.string ByteArray.empty, .bool false]) w := by kernel_rfl
@[go_sem] theorem as_str_int (v : Value) (w : World) : (Instr.typeAssert (.iface 9 v) 20 3 true).run Tryz.prog w = .ok (.tuple #[.int .i64 0, .bool false]) w := by kernel_rfl
@[go_sem] theorem as_str_f64 (v : Value) (w : World) : (Instr.typeAssert (.iface 9 v) 20 22 true).run Tryz.prog w = .ok (.tuple #[.float .f64 0, .bool false]) w := by kernel_rfl
@[go_sem] theorem as_str_big (v : Value) (w : World) : (Instr.typeAssert (.iface 9 v) 20 91 true).run Tryz.prog w = .ok (.tuple #[.pointer none, .bool false]) w := by kernel_rfl
@[go_sem] theorem as_str_str (v : Value) (w : World) : (Instr.typeAssert (.iface 9 v) 20 9 true).run Tryz.prog w = .ok (.tuple #[v, .bool true]) w := by kernel_rfl
@[go_sem] theorem as_str_arr (v : Value) (w : World) : (Instr.typeAssert (.iface 9 v) 20 68 true).run Tryz.prog w = .ok (.tuple #[.slice none 0 0, .bool false]) w := by kernel_rfl
@[go_sem] theorem as_str_map (v : Value) (w : World) : (Instr.typeAssert (.iface 9 v) 20 105 true).run Tryz.prog w = .ok (.tuple #[.map none, .bool false]) w := by kernel_rfl
@[go_sem] theorem as_str_bool (v : Value) (w : World) : (Instr.typeAssert (.iface 9 v) 20 4 true).run Tryz.prog w = .ok (.tuple #[.bool false, .bool false]) w := by kernel_rfl
@[go_sem] theorem as_arr_num (v : Value) (w : World) : (Instr.typeAssert (.iface 68 v) 20 77 true).run Tryz.prog w = .ok (.tuple #[.string ByteArray.empty, .bool false]) w := by kernel_rfl
@[go_sem] theorem as_arr_int (v : Value) (w : World) : (Instr.typeAssert (.iface 68 v) 20 3 true).run Tryz.prog w = .ok (.tuple #[.int .i64 0, .bool false]) w := by kernel_rfl
@[go_sem] theorem as_arr_f64 (v : Value) (w : World) : (Instr.typeAssert (.iface 68 v) 20 22 true).run Tryz.prog w = .ok (.tuple #[.float .f64 0, .bool false]) w := by kernel_rfl
@[go_sem] theorem as_arr_big (v : Value) (w : World) : (Instr.typeAssert (.iface 68 v) 20 91 true).run Tryz.prog w = .ok (.tuple #[.pointer none, .bool false]) w := by kernel_rfl
@[go_sem] theorem as_arr_str (v : Value) (w : World) : (Instr.typeAssert (.iface 68 v) 20 9 true).run Tryz.prog w = .ok (.tuple #[.string ByteArray.empty, .bool false]) w := by kernel_rfl
@[go_sem] theorem as_arr_arr (v : Value) (w : World) : (Instr.typeAssert (.iface 68 v) 20 68 true).run Tryz.prog w = .ok (.tuple #[v, .bool true]) w := by kernel_rfl
@[go_sem] theorem as_arr_map (v : Value) (w : World) : (Instr.typeAssert (.iface 68 v) 20 105 true).run Tryz.prog w = .ok (.tuple #[.map none, .bool false]) w := by kernel_rfl
@[go_sem] theorem as_arr_bool (v : Value) (w : World) : (Instr.typeAssert (.iface 68 v) 20 4 true).run Tryz.prog w = .ok (.tuple #[.bool false, .bool false]) w := by kernel_rfl
@[go_sem] theorem as_bool_num (v : Value) (w : World) : (Instr.typeAssert (.iface 4 v) 20 77 true).run Tryz.prog w = .ok (.tuple #[.string ByteArray.empty, .bool false]) w := by kernel_rfl
@[go_sem] theorem as_bool_int (v : Value) (w : World) : (Instr.typeAssert (.iface 4 v) 20 3 true).run Tryz.prog w = .ok (.tuple #[.int .i64 0, .bool false]) w := by kernel_rfl
@[go_sem] theorem as_bool_f64 (v : Value) (w : World) : (Instr.typeAssert (.iface 4 v) 20 22 true).run Tryz.prog w = .ok (.tuple #[.float .f64 0, .bool false]) w := by kernel_rfl
@[go_sem] theorem as_bool_big (v : Value) (w : World) : (Instr.typeAssert (.iface 4 v) 20 91 true).run Tryz.prog w = .ok (.tuple #[.pointer none, .bool false]) w := by kernel_rfl
@[go_sem] theorem as_bool_str (v : Value) (w : World) : (Instr.typeAssert (.iface 4 v) 20 9 true).run Tryz.prog w = .ok (.tuple #[.string ByteArray.empty, .bool false]) w := by kernel_rfl
@[go_sem] theorem as_bool_arr (v : Value) (w : World) : (Instr.typeAssert (.iface 4 v) 20 68 true).run Tryz.prog w = .ok (.tuple #[.slice none 0 0, .bool false]) w := by kernel_rfl
@[go_sem] theorem as_bool_map (v : Value) (w : World) : (Instr.typeAssert (.iface 4 v) 20 105 true).run Tryz.prog w = .ok (.tuple #[.map none, .bool false]) w := by kernel_rfl
@[go_sem] theorem as_bool_bool (v : Value) (w : World) : (Instr.typeAssert (.iface 4 v) 20 4 true).run Tryz.prog w = .ok (.tuple #[v, .bool true]) w := by kernel_rfl

def cmpI (a b : Int) : Int := if a < b then -1 else if b < a then 1 else 0
def ltF (a b : Nat) : Bool := FloatKind.f64.format.order a b == some .lt || FloatKind.f64.format.order a a != some .eq
def cmpF (a b : Nat) : Int := if ltF a b = true then -1 else if (FloatKind.f64.format.order a b == some .eq) = true then 0 else 1
def cmpS (a b : ByteArray) : Int := if Op.bytesLess a.toList b.toList = true then -1 else if (a.toList == b.toList) = true then 0 else 1

/-- The end of a function that leaves the world alone. -/
def Ret (v : Value) (w : World) (e : Ending) (w' : World) : Prop := e = .returned v ∧ w = w'
theorem ret_int {k : IntKind} {a b : Int} (h : a = b) : Ending.returned (.int k a) = .returned (.int k b) := by rw [h]

theorem cmpInt_any (a b : Int) (w : World) : Calls Tryz.prog 82 #[.int .i64 a, .int .i64 b] w (Ret (.int .i64 (cmpI a b)) w) := by
  go_enter Tryz.func82, Tryz.ntmps82
  go_wp2
  all_goals (go_ret; exact ⟨ret_int (by unfold cmpI; omega), rfl⟩)
theorem cmpStr_any (a b : ByteArray) (w : World) : Calls Tryz.prog 86 #[.string a, .string b] w (Ret (.int .i64 (cmpS a b)) w) := by
  have key : ∀ c, cmpS a b = c → Calls Tryz.prog 86 #[.string a, .string b] w (Ret (.int .i64 c) w) → Calls Tryz.prog 86 #[.string a, .string b] w (Ret (.int .i64 (cmpS a b)) w) := fun c h h' => by rw [h]; exact h'
  have i1 : (!a.toList == a.toList) = false := by simp
  have i2 : (!b.toList == b.toList) = false := by simp
  by_cases h1 : Op.bytesLess a.toList b.toList = true
  · refine key (-1) (by simp [cmpS, h1]) ?_
    clear key
    go_enter Tryz.func86, Tryz.ntmps86
    go_wp2
    go_ret
    exact ⟨rfl, rfl⟩
  · have h1' : Op.bytesLess a.toList b.toList = false := by simpa using h1
    by_cases h2 : (a.toList == b.toList) = true
    · refine key 0 (by simp [cmpS, h1', h2]) ?_
      clear key h1
      go_enter Tryz.func86, Tryz.ntmps86
      go_wp2
      go_ret
      exact ⟨rfl, rfl⟩
    · have h2' : (a.toList == b.toList) = false := by simpa using h2
      refine key 1 (by simp [cmpS, h1', h2']) ?_
      clear key h1 h2
      go_enter Tryz.func86, Tryz.ntmps86
      go_wp2
      go_ret
      exact ⟨rfl, rfl⟩
theorem lt_any (a b : Nat) (w : World) : Calls Tryz.prog 84 #[.float .f64 a, .float .f64 b] w (Ret (.bool (ltF a b)) w) := by
  go_enter Tryz.func84, Tryz.ntmps84
  go_wp2
  · rename_i h; go_ret; exact ⟨by simp [ltF, h], rfl⟩
  · go_ret; exact ⟨rfl, rfl⟩
theorem cmpFloat_any (a b : Nat) (w : World) : Calls Tryz.prog 83 #[.float .f64 a, .float .f64 b] w (Ret (.int .i64 (cmpF a b)) w) := by
  go_enter Tryz.func83, Tryz.ntmps83
  go_wp2_with (go_at_call 84; refine (lt_any _ _ _).mono ?_; rintro e w' ⟨rfl, rfl⟩)
  all_goals (go_ret; exact ⟨ret_int (by simp [cmpF, *]), rfl⟩)
/-! typeIndex, and the arm for values of different kinds -/
theorem typeIndex_nil  (w : World) : Calls Tryz.prog 91 #[.nilIface] w (Ret (.int .i64 0) w) := by
  go_enter Tryz.func91, Tryz.ntmps91
  go_wp2
  all_goals (go_ret; exact ⟨rfl, rfl⟩)
theorem typeIndex_bool (x : Bool) (w : World) : Calls Tryz.prog 91 #[(.iface 4 (.bool x))] w (Ret (.int .i64 (if x then 2 else 1)) w) := by
  cases x
  all_goals
    go_enter Tryz.func91, Tryz.ntmps91
    go_wp2
    all_goals (go_ret; exact ⟨rfl, rfl⟩)
theorem typeIndex_int (x : Int) (w : World) : Calls Tryz.prog 91 #[(.iface 3 (.int .i64 x))] w (Ret (.int .i64 3) w) := by
  go_enter Tryz.func91, Tryz.ntmps91
  go_wp2
  all_goals (go_ret; exact ⟨rfl, rfl⟩)
theorem typeIndex_f64 (x : Nat) (w : World) : Calls Tryz.prog 91 #[(.iface 22 (.float .f64 x))] w (Ret (.int .i64 3) w) := by
  go_enter Tryz.func91, Tryz.ntmps91
  go_wp2
  all_goals (go_ret; exact ⟨rfl, rfl⟩)
theorem typeIndex_str (x : ByteArray) (w : World) : Calls Tryz.prog 91 #[(.iface 9 (.string x))] w (Ret (.int .i64 4) w) := by
  go_enter Tryz.func91, Tryz.ntmps91
  go_wp2
  all_goals (go_ret; exact ⟨rfl, rfl⟩)
theorem fallback_any (l r : Value) (i j : Int) (hl : ∀ w, Calls Tryz.prog 91 #[l] w (Ret (.int .i64 i) w)) (hr : ∀ w, Calls Tryz.prog 91 #[r] w (Ret (.int .i64 j) w)) (w : World) :
    Calls Tryz.prog 90 #[l, r] w (Ret (.int .i64 (cmpI i j)) w) := by
  have HL := Lib.hid hl
  have HR := Lib.hid hr
  clear hl hr
  go_enter Tryz.func90, Tryz.ntmps90
  go_wp2_with fail
  refine (HL.out _).mono ?_
  rintro e w' ⟨rfl, rfl⟩
  go_wp2_with fail
  refine (HR.out _).mono ?_
  rintro e w' ⟨rfl, rfl⟩
  go_wp2_with fail
  refine (cmpInt_any _ _ _).mono ?_
  rintro e w' ⟨rfl, rfl⟩
  go_wp2
  go_ret
  exact ⟨rfl, rfl⟩
/-! Compare -/
set_option maxRecDepth 100000 in
theorem compare_ii (a : Int) (b : Int) (w : World) : Calls Tryz.prog 62 #[(.iface 3 (.int .i64 a)), (.iface 3 (.int .i64 b))] w (Ret (.int .i64 (cmpI a b)) w) := by
  go_enter Tryz.func62, Tryz.ntmps62
  go_wp2_with (first | (go_at_call 81; go_in) | (go_at_call 82; refine (cmpInt_any _ _ _).mono ?_; rintro e w' ⟨rfl, rfl⟩))
  all_goals (go_ret; exact ⟨rfl, rfl⟩)
set_option maxRecDepth 100000 in
theorem compare_if (a : Int) (b : Nat) (w : World) : Calls Tryz.prog 62 #[(.iface 3 (.int .i64 a)), (.iface 22 (.float .f64 b))] w (Ret (.int .i64 (cmpF (floatOfInt .f64 a) b)) w) := by
  go_enter Tryz.func62, Tryz.ntmps62
  go_wp2_with (first | (go_at_call 81; go_in) | (go_at_call 83; refine (cmpFloat_any _ _ _).mono ?_; rintro e w' ⟨rfl, rfl⟩))
  all_goals (go_ret; exact ⟨rfl, rfl⟩)
set_option maxRecDepth 100000 in
theorem compare_fi (a : Nat) (b : Int) (w : World) : Calls Tryz.prog 62 #[(.iface 22 (.float .f64 a)), (.iface 3 (.int .i64 b))] w (Ret (.int .i64 (cmpF a (floatOfInt .f64 b))) w) := by
  go_enter Tryz.func62, Tryz.ntmps62
  go_wp2_with (first | (go_at_call 81; go_in) | (go_at_call 83; refine (cmpFloat_any _ _ _).mono ?_; rintro e w' ⟨rfl, rfl⟩))
  all_goals (go_ret; exact ⟨rfl, rfl⟩)
set_option maxRecDepth 100000 in
theorem compare_ff (a : Nat) (b : Nat) (w : World) : Calls Tryz.prog 62 #[(.iface 22 (.float .f64 a)), (.iface 22 (.float .f64 b))] w (Ret (.int .i64 (cmpF a b)) w) := by
  go_enter Tryz.func62, Tryz.ntmps62
  go_wp2_with (first | (go_at_call 81; go_in) | (go_at_call 83; refine (cmpFloat_any _ _ _).mono ?_; rintro e w' ⟨rfl, rfl⟩))
  all_goals (go_ret; exact ⟨rfl, rfl⟩)
set_option maxRecDepth 100000 in
theorem compare_ss (a : ByteArray) (b : ByteArray) (w : World) : Calls Tryz.prog 62 #[(.iface 9 (.string a)), (.iface 9 (.string b))] w (Ret (.int .i64 (cmpS a b)) w) := by
  go_enter Tryz.func62, Tryz.ntmps62
  go_wp2_with (first | (go_at_call 81; go_in) | (go_at_call 86; refine (cmpStr_any _ _ _).mono ?_; rintro e w' ⟨rfl, rfl⟩))
  all_goals (go_ret; exact ⟨rfl, rfl⟩)
set_option maxRecDepth 100000 in
theorem compare_bb (a : Bool) (b : Bool) (w : World) : Calls Tryz.prog 62 #[(.iface 4 (.bool a)), (.iface 4 (.bool b))] w (Ret (.int .i64 (cmpI (if a then 2 else 1) (if b then 2 else 1))) w) := by
  go_enter Tryz.func62, Tryz.ntmps62
  go_wp2_with (first | (go_at_call 81; go_in) | (go_at_call 90; refine (fallback_any _ _ _ _ (typeIndex_bool _) (typeIndex_bool _) _).mono ?_; rintro e w' ⟨rfl, rfl⟩))
  all_goals (go_ret; exact ⟨rfl, rfl⟩)
set_option maxRecDepth 100000 in
theorem compare_is (a : Int) (b : ByteArray) (w : World) : Calls Tryz.prog 62 #[(.iface 3 (.int .i64 a)), (.iface 9 (.string b))] w (Ret (.int .i64 (cmpI 3 4)) w) := by
  go_enter Tryz.func62, Tryz.ntmps62
  go_wp2_with (first | (go_at_call 81; go_in) | (go_at_call 90; refine (fallback_any _ _ _ _ (typeIndex_int _) (typeIndex_str _) _).mono ?_; rintro e w' ⟨rfl, rfl⟩))
  all_goals (go_ret; exact ⟨rfl, rfl⟩)
set_option maxRecDepth 100000 in
theorem compare_si (a : ByteArray) (b : Int) (w : World) : Calls Tryz.prog 62 #[(.iface 9 (.string a)), (.iface 3 (.int .i64 b))] w (Ret (.int .i64 (cmpI 4 3)) w) := by
  go_enter Tryz.func62, Tryz.ntmps62
  go_wp2_with (first | (go_at_call 81; go_in) | (go_at_call 90; refine (fallback_any _ _ _ _ (typeIndex_str _) (typeIndex_int _) _).mono ?_; rintro e w' ⟨rfl, rfl⟩))
  all_goals (go_ret; exact ⟨rfl, rfl⟩)
set_option maxRecDepth 100000 in
theorem compare_ib (a : Int) (b : Bool) (w : World) : Calls Tryz.prog 62 #[(.iface 3 (.int .i64 a)), (.iface 4 (.bool b))] w (Ret (.int .i64 (cmpI 3 (if b then 2 else 1))) w) := by
  go_enter Tryz.func62, Tryz.ntmps62
  go_wp2_with (first | (go_at_call 81; go_in) | (go_at_call 90; refine (fallback_any _ _ _ _ (typeIndex_int _) (typeIndex_bool _) _).mono ?_; rintro e w' ⟨rfl, rfl⟩))
  all_goals (go_ret; exact ⟨rfl, rfl⟩)
set_option maxRecDepth 100000 in
theorem compare_bi (a : Bool) (b : Int) (w : World) : Calls Tryz.prog 62 #[(.iface 4 (.bool a)), (.iface 3 (.int .i64 b))] w (Ret (.int .i64 (cmpI (if a then 2 else 1) 3)) w) := by
  go_enter Tryz.func62, Tryz.ntmps62
  go_wp2_with (first | (go_at_call 81; go_in) | (go_at_call 90; refine (fallback_any _ _ _ _ (typeIndex_bool _) (typeIndex_int _) _).mono ?_; rintro e w' ⟨rfl, rfl⟩))
  all_goals (go_ret; exact ⟨rfl, rfl⟩)
set_option maxRecDepth 100000 in
theorem compare_in (a : Int)  (w : World) : Calls Tryz.prog 62 #[(.iface 3 (.int .i64 a)), .nilIface] w (Ret (.int .i64 (cmpI 3 0)) w) := by
  go_enter Tryz.func62, Tryz.ntmps62
  go_wp2_with (first | (go_at_call 81; go_in) | (go_at_call 90; refine (fallback_any _ _ _ _ (typeIndex_int _) (typeIndex_nil) _).mono ?_; rintro e w' ⟨rfl, rfl⟩))
  all_goals (go_ret; exact ⟨rfl, rfl⟩)
set_option maxRecDepth 100000 in
theorem compare_ni  (b : Int) (w : World) : Calls Tryz.prog 62 #[.nilIface, (.iface 3 (.int .i64 b))] w (Ret (.int .i64 (cmpI 0 3)) w) := by
  go_enter Tryz.func62, Tryz.ntmps62
  go_wp2_with (first | (go_at_call 81; go_in) | (go_at_call 90; refine (fallback_any _ _ _ _ (typeIndex_nil) (typeIndex_int _) _).mono ?_; rintro e w' ⟨rfl, rfl⟩))
  all_goals (go_ret; exact ⟨rfl, rfl⟩)
end Go.Proofs.YtlhkbdeceogjgaaGreatDoor
