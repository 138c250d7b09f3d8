/- The law's table of floats, walked: one branch each. Conditions: none. -/
import Derived.Test.YtdkccihoecpcaaaGreatFmtRd
import Derived.Test.YtdkccihoecpcaaaGreatFmtAppI
import Derived.Lib.SlBytesConst
import Derived.Laws.FloatArith
namespace Go.Proofs.YtdkccihoecpcaaaGreatFmt
open Go.RowKit Go
@[go_sem] theorem run_bconst (w : World) (C : Array Value) (b n c : Nat) (h : b = w.heap.size) : (convert 29 29 (.slice (some ⟨b, 0, none⟩) n c)).run Tryz.prog (w.alloc (.cells C 5)) = .ok (.slice (some ⟨b, 0, none⟩) n c) (w.alloc (.cells C 5 (C.size, C.size + 1))) := by
  subst h
  exact Lib.run_convert_bytes_const w _ _ C n c Tryz.underlying29 Tryz.underlying5
theorem rd_at (w : World) (b : Nat) (l : List UInt8) (c : Nat) (fz : Nat × Nat) (hb : b = w.heap.size) : Rd (.slice (some ⟨b, 0, none⟩) l.length c) l (w.alloc (.cells (Lib.byteCells l).toArray 5 fz)) := by
  subst hb
  exact ⟨_, c, rfl, fun k hk => ⟨w.heap.size, rfl, by
    simp only [World.cell?, World.alloc, Array.getElem?_push_size]
    simp [Lib.byteCells, hk]⟩⟩
theorem rd_new (w : World) (l : List UInt8) (c : Nat) (fz : Nat × Nat) : Rd (.slice (some ⟨w.heap.size, 0, none⟩) l.length c) l (w.alloc (.cells (Lib.byteCells l).toArray 5 fz)) := rd_at w _ l c fz rfl
theorem below_new (w : World) (o : Obj) : Below w.heap.size w (w.alloc o) := (Below.refl _ _).alloc (Nat.le_refl _) o
/-- What zzFloatText answers. -/
def FTP (L : List UInt8) (w : World) (e : Ending) (w' : World) : Prop := ∃ v k, e = .returned (.tuple #[v, .bool k]) ∧ (k = true → Rd v L w') ∧ Below w.heap.size w w'
set_option maxRecDepth 100000 in
set_option maxHeartbeats 1600000 in
theorem ft_n (X : Nat) (n0 : (FloatKind.f64.format.order X X != some .eq) = true) (w : World) : Calls Tryz.prog 21 #[.float .f64 X] w (FTP [110, 117, 108, 108] w) := by
  go_enter Tryz.func21, Tryz.ntmps21
  go_wp2
  go_ret2
  exact ⟨_, _, rfl, fun _ => rd_new w [110, 117, 108, 108] _ _, below_new _ _⟩
set_option maxRecDepth 100000 in
set_option maxHeartbeats 1600000 in
theorem ft_g (X : Nat) (n0 : (FloatKind.f64.format.order X X != some .eq) = false) (g : (FloatKind.f64.format.order X 9218868437227405311 == some .gt || FloatKind.f64.format.order X 9218868437227405311 == some .eq) = true) (w : World) : Calls Tryz.prog 21 #[.float .f64 X] w (FTP [49, 46, 55, 57, 55, 54, 57, 51, 49, 51, 52, 56, 54, 50, 51, 49, 53, 55, 101, 43, 51, 48, 56] w) := by
  go_enter Tryz.func21, Tryz.ntmps21
  go_wp2
  go_ret2
  exact ⟨_, _, rfl, fun _ => rd_new w [49, 46, 55, 57, 55, 54, 57, 51, 49, 51, 52, 56, 54, 50, 51, 49, 53, 55, 101, 43, 51, 48, 56] _ _, below_new _ _⟩
set_option maxRecDepth 100000 in
set_option maxHeartbeats 1600000 in
theorem ft_l (X : Nat) (n0 : (FloatKind.f64.format.order X X != some .eq) = false) (g : (FloatKind.f64.format.order X 9218868437227405311 == some .gt || FloatKind.f64.format.order X 9218868437227405311 == some .eq) = false) (l : (FloatKind.f64.format.order X 18442240474082181119 == some .lt || FloatKind.f64.format.order X 18442240474082181119 == some .eq) = true) (w : World) : Calls Tryz.prog 21 #[.float .f64 X] w (FTP [45, 49, 46, 55, 57, 55, 54, 57, 51, 49, 51, 52, 56, 54, 50, 51, 49, 53, 55, 101, 43, 51, 48, 56] w) := by
  go_enter Tryz.func21, Tryz.ntmps21
  go_wp2
  go_ret2
  exact ⟨_, _, rfl, fun _ => rd_new w [45, 49, 46, 55, 57, 55, 54, 57, 51, 49, 51, 52, 56, 54, 50, 51, 49, 53, 55, 101, 43, 51, 48, 56] _ _, below_new _ _⟩
set_option maxRecDepth 100000 in
set_option maxHeartbeats 1600000 in
theorem ft_z0 (w : World) : Calls Tryz.prog 21 #[.float .f64 0] w (FTP [48] w) := by
  have hy : floatBits .quo .f64 4607182418800017408 0 = some 9218868437227405312 := by decide +kernel
  have hlt : (FloatKind.f64.format.order 9218868437227405312 0 == some .lt) = false := by decide +kernel
  have hop : ∀ t w, (binOp .quo t (.float .f64 4607182418800017408) (.float .f64 0)).run Tryz.prog w = .ok (.float .f64 9218868437227405312) w := fun t w => run_float_arith w .quo t .f64 _ _ _ hy
  clear hy
  have n0 : (FloatKind.f64.format.order 0 0 != some .eq) = false := by decide +kernel
  have g : (FloatKind.f64.format.order 0 9218868437227405311 == some .gt || FloatKind.f64.format.order 0 9218868437227405311 == some .eq) = false := by decide +kernel
  have l : (FloatKind.f64.format.order 0 18442240474082181119 == some .lt || FloatKind.f64.format.order 0 18442240474082181119 == some .eq) = false := by decide +kernel
  have z : (FloatKind.f64.format.order 0 0 == some .eq) = true := by decide +kernel
  go_enter Tryz.func21, Tryz.ntmps21
  go_wp2
  go_ret2
  exact ⟨_, _, rfl, fun _ => rd_new w [48] _ _, below_new _ _⟩
set_option maxRecDepth 100000 in
set_option maxHeartbeats 1600000 in
theorem ft_z1 (w : World) : Calls Tryz.prog 21 #[.float .f64 9223372036854775808] w (FTP [45, 48] w) := by
  have hy : floatBits .quo .f64 4607182418800017408 9223372036854775808 = some 18442240474082181120 := by decide +kernel
  have hlt : (FloatKind.f64.format.order 18442240474082181120 0 == some .lt) = true := by decide +kernel
  have hop : ∀ t w, (binOp .quo t (.float .f64 4607182418800017408) (.float .f64 9223372036854775808)).run Tryz.prog w = .ok (.float .f64 18442240474082181120) w := fun t w => run_float_arith w .quo t .f64 _ _ _ hy
  clear hy
  have n0 : (FloatKind.f64.format.order 9223372036854775808 9223372036854775808 != some .eq) = false := by decide +kernel
  have g : (FloatKind.f64.format.order 9223372036854775808 9218868437227405311 == some .gt || FloatKind.f64.format.order 9223372036854775808 9218868437227405311 == some .eq) = false := by decide +kernel
  have l : (FloatKind.f64.format.order 9223372036854775808 18442240474082181119 == some .lt || FloatKind.f64.format.order 9223372036854775808 18442240474082181119 == some .eq) = false := by decide +kernel
  have z : (FloatKind.f64.format.order 9223372036854775808 0 == some .eq) = true := by decide +kernel
  go_enter Tryz.func21, Tryz.ntmps21
  go_wp2
  go_ret2
  exact ⟨_, _, rfl, fun _ => rd_new w [45, 48] _ _, below_new _ _⟩
set_option maxRecDepth 100000 in
set_option maxHeartbeats 1600000 in
theorem ft_e1 (X : Nat) (n0 : (FloatKind.f64.format.order X X != some .eq) = false) (g : (FloatKind.f64.format.order X 9218868437227405311 == some .gt || FloatKind.f64.format.order X 9218868437227405311 == some .eq) = false) (l : (FloatKind.f64.format.order X 18442240474082181119 == some .lt || FloatKind.f64.format.order X 18442240474082181119 == some .eq) = false) (z : (FloatKind.f64.format.order X 0 == some .eq) = false) (e1 : (FloatKind.f64.format.order X 4921056587992461136 == some .eq) = true) (w : World) : Calls Tryz.prog 21 #[.float .f64 X] w (FTP [49, 101, 43, 50, 49] w) := by
  go_enter Tryz.func21, Tryz.ntmps21
  go_wp2
  go_ret2
  exact ⟨_, _, rfl, fun _ => rd_new w [49, 101, 43, 50, 49] _ _, below_new _ _⟩
set_option maxRecDepth 100000 in
set_option maxHeartbeats 1600000 in
theorem ft_e2 (X : Nat) (n0 : (FloatKind.f64.format.order X X != some .eq) = false) (g : (FloatKind.f64.format.order X 9218868437227405311 == some .gt || FloatKind.f64.format.order X 9218868437227405311 == some .eq) = false) (l : (FloatKind.f64.format.order X 18442240474082181119 == some .lt || FloatKind.f64.format.order X 18442240474082181119 == some .eq) = false) (z : (FloatKind.f64.format.order X 0 == some .eq) = false) (e1 : (FloatKind.f64.format.order X 4921056587992461136 == some .eq) = false) (e2 : (FloatKind.f64.format.order X 14144428624847236944 == some .eq) = true) (w : World) : Calls Tryz.prog 21 #[.float .f64 X] w (FTP [45, 49, 101, 43, 50, 49] w) := by
  go_enter Tryz.func21, Tryz.ntmps21
  go_wp2
  go_ret2
  exact ⟨_, _, rfl, fun _ => rd_new w [45, 49, 101, 43, 50, 49] _ _, below_new _ _⟩
set_option maxRecDepth 100000 in
set_option maxHeartbeats 1600000 in
theorem ft_e3 (X : Nat) (n0 : (FloatKind.f64.format.order X X != some .eq) = false) (g : (FloatKind.f64.format.order X 9218868437227405311 == some .gt || FloatKind.f64.format.order X 9218868437227405311 == some .eq) = false) (l : (FloatKind.f64.format.order X 18442240474082181119 == some .lt || FloatKind.f64.format.order X 18442240474082181119 == some .eq) = false) (z : (FloatKind.f64.format.order X 0 == some .eq) = false) (e1 : (FloatKind.f64.format.order X 4921056587992461136 == some .eq) = false) (e2 : (FloatKind.f64.format.order X 14144428624847236944 == some .eq) = false) (e3 : (FloatKind.f64.format.order X 4502148214488346440 == some .eq) = true) (w : World) : Calls Tryz.prog 21 #[.float .f64 X] w (FTP [49, 101, 45, 55] w) := by
  go_enter Tryz.func21, Tryz.ntmps21
  go_wp2
  go_ret2
  exact ⟨_, _, rfl, fun _ => rd_new w [49, 101, 45, 55] _ _, below_new _ _⟩
set_option maxRecDepth 100000 in
set_option maxHeartbeats 1600000 in
theorem ft_e4 (X : Nat) (n0 : (FloatKind.f64.format.order X X != some .eq) = false) (g : (FloatKind.f64.format.order X 9218868437227405311 == some .gt || FloatKind.f64.format.order X 9218868437227405311 == some .eq) = false) (l : (FloatKind.f64.format.order X 18442240474082181119 == some .lt || FloatKind.f64.format.order X 18442240474082181119 == some .eq) = false) (z : (FloatKind.f64.format.order X 0 == some .eq) = false) (e1 : (FloatKind.f64.format.order X 4921056587992461136 == some .eq) = false) (e2 : (FloatKind.f64.format.order X 14144428624847236944 == some .eq) = false) (e3 : (FloatKind.f64.format.order X 4502148214488346440 == some .eq) = false) (e4 : (FloatKind.f64.format.order X 13725520251343122248 == some .eq) = true) (w : World) : Calls Tryz.prog 21 #[.float .f64 X] w (FTP [45, 49, 101, 45, 55] w) := by
  go_enter Tryz.func21, Tryz.ntmps21
  go_wp2
  go_ret2
  exact ⟨_, _, rfl, fun _ => rd_new w [45, 49, 101, 45, 55] _ _, below_new _ _⟩
set_option maxRecDepth 100000 in
set_option maxHeartbeats 1600000 in
theorem ft_e5 (X : Nat) (n0 : (FloatKind.f64.format.order X X != some .eq) = false) (g : (FloatKind.f64.format.order X 9218868437227405311 == some .gt || FloatKind.f64.format.order X 9218868437227405311 == some .eq) = false) (l : (FloatKind.f64.format.order X 18442240474082181119 == some .lt || FloatKind.f64.format.order X 18442240474082181119 == some .eq) = false) (z : (FloatKind.f64.format.order X 0 == some .eq) = false) (e1 : (FloatKind.f64.format.order X 4921056587992461136 == some .eq) = false) (e2 : (FloatKind.f64.format.order X 14144428624847236944 == some .eq) = false) (e3 : (FloatKind.f64.format.order X 4502148214488346440 == some .eq) = false) (e4 : (FloatKind.f64.format.order X 13725520251343122248 == some .eq) = false) (e5 : (FloatKind.f64.format.order X 4459862875403570764 == some .eq) = true) (w : World) : Calls Tryz.prog 21 #[.float .f64 X] w (FTP [49, 46, 53, 101, 45, 49, 48] w) := by
  go_enter Tryz.func21, Tryz.ntmps21
  go_wp2
  go_ret2
  exact ⟨_, _, rfl, fun _ => rd_new w [49, 46, 53, 101, 45, 49, 48] _ _, below_new _ _⟩
set_option maxRecDepth 100000 in
set_option maxHeartbeats 1600000 in
theorem ft_e6 (X : Nat) (n0 : (FloatKind.f64.format.order X X != some .eq) = false) (g : (FloatKind.f64.format.order X 9218868437227405311 == some .gt || FloatKind.f64.format.order X 9218868437227405311 == some .eq) = false) (l : (FloatKind.f64.format.order X 18442240474082181119 == some .lt || FloatKind.f64.format.order X 18442240474082181119 == some .eq) = false) (z : (FloatKind.f64.format.order X 0 == some .eq) = false) (e1 : (FloatKind.f64.format.order X 4921056587992461136 == some .eq) = false) (e2 : (FloatKind.f64.format.order X 14144428624847236944 == some .eq) = false) (e3 : (FloatKind.f64.format.order X 4502148214488346440 == some .eq) = false) (e4 : (FloatKind.f64.format.order X 13725520251343122248 == some .eq) = false) (e5 : (FloatKind.f64.format.order X 4459862875403570764 == some .eq) = false) (e6 : (FloatKind.f64.format.order X 4602678819172646912 == some .eq) = true) (w : World) : Calls Tryz.prog 21 #[.float .f64 X] w (FTP [48, 46, 53] w) := by
  go_enter Tryz.func21, Tryz.ntmps21
  go_wp2
  go_ret2
  exact ⟨_, _, rfl, fun _ => rd_new w [48, 46, 53] _ _, below_new _ _⟩
set_option maxRecDepth 100000 in
set_option maxHeartbeats 1600000 in
theorem ft_e7 (X : Nat) (n0 : (FloatKind.f64.format.order X X != some .eq) = false) (g : (FloatKind.f64.format.order X 9218868437227405311 == some .gt || FloatKind.f64.format.order X 9218868437227405311 == some .eq) = false) (l : (FloatKind.f64.format.order X 18442240474082181119 == some .lt || FloatKind.f64.format.order X 18442240474082181119 == some .eq) = false) (z : (FloatKind.f64.format.order X 0 == some .eq) = false) (e1 : (FloatKind.f64.format.order X 4921056587992461136 == some .eq) = false) (e2 : (FloatKind.f64.format.order X 14144428624847236944 == some .eq) = false) (e3 : (FloatKind.f64.format.order X 4502148214488346440 == some .eq) = false) (e4 : (FloatKind.f64.format.order X 13725520251343122248 == some .eq) = false) (e5 : (FloatKind.f64.format.order X 4459862875403570764 == some .eq) = false) (e6 : (FloatKind.f64.format.order X 4602678819172646912 == some .eq) = false) (e7 : (FloatKind.f64.format.order X 13836183955189006336 == some .eq) = true) (w : World) : Calls Tryz.prog 21 #[.float .f64 X] w (FTP [45, 50, 46, 53] w) := by
  go_enter Tryz.func21, Tryz.ntmps21
  go_wp2
  go_ret2
  exact ⟨_, _, rfl, fun _ => rd_new w [45, 50, 46, 53] _ _, below_new _ _⟩
set_option maxRecDepth 100000 in
set_option maxHeartbeats 1600000 in
theorem ft_e8 (X : Nat) (n0 : (FloatKind.f64.format.order X X != some .eq) = false) (g : (FloatKind.f64.format.order X 9218868437227405311 == some .gt || FloatKind.f64.format.order X 9218868437227405311 == some .eq) = false) (l : (FloatKind.f64.format.order X 18442240474082181119 == some .lt || FloatKind.f64.format.order X 18442240474082181119 == some .eq) = false) (z : (FloatKind.f64.format.order X 0 == some .eq) = false) (e1 : (FloatKind.f64.format.order X 4921056587992461136 == some .eq) = false) (e2 : (FloatKind.f64.format.order X 14144428624847236944 == some .eq) = false) (e3 : (FloatKind.f64.format.order X 4502148214488346440 == some .eq) = false) (e4 : (FloatKind.f64.format.order X 13725520251343122248 == some .eq) = false) (e5 : (FloatKind.f64.format.order X 4459862875403570764 == some .eq) = false) (e6 : (FloatKind.f64.format.order X 4602678819172646912 == some .eq) = false) (e7 : (FloatKind.f64.format.order X 13836183955189006336 == some .eq) = false) (e8 : (FloatKind.f64.format.order X 4517329193108106637 == some .eq) = true) (w : World) : Calls Tryz.prog 21 #[.float .f64 X] w (FTP [48, 46, 48, 48, 48, 48, 48, 49] w) := by
  go_enter Tryz.func21, Tryz.ntmps21
  go_wp2
  go_ret2
  exact ⟨_, _, rfl, fun _ => rd_new w [48, 46, 48, 48, 48, 48, 48, 49] _ _, below_new _ _⟩
set_option maxRecDepth 100000 in
set_option maxHeartbeats 1600000 in
theorem ft_hi (X : Nat) (L : List UInt8) (n0 : (FloatKind.f64.format.order X X != some .eq) = false) (g : (FloatKind.f64.format.order X 9218868437227405311 == some .gt || FloatKind.f64.format.order X 9218868437227405311 == some .eq) = false) (l : (FloatKind.f64.format.order X 18442240474082181119 == some .lt || FloatKind.f64.format.order X 18442240474082181119 == some .eq) = false) (z : (FloatKind.f64.format.order X 0 == some .eq) = false) (e1 : (FloatKind.f64.format.order X 4921056587992461136 == some .eq) = false) (e2 : (FloatKind.f64.format.order X 14144428624847236944 == some .eq) = false) (e3 : (FloatKind.f64.format.order X 4502148214488346440 == some .eq) = false) (e4 : (FloatKind.f64.format.order X 13725520251343122248 == some .eq) = false) (e5 : (FloatKind.f64.format.order X 4459862875403570764 == some .eq) = false) (e6 : (FloatKind.f64.format.order X 4602678819172646912 == some .eq) = false) (e7 : (FloatKind.f64.format.order X 13836183955189006336 == some .eq) = false) (e8 : (FloatKind.f64.format.order X 4517329193108106637 == some .eq) = false) (gp : (FloatKind.f64.format.order X 14069245235905429504 == some .gt) = false) (w : World) : Calls Tryz.prog 21 #[.float .f64 X] w (FTP L w) := by
  go_enter Tryz.func21, Tryz.ntmps21
  go_wp2
  go_ret2
  exact ⟨_, _, rfl, fun h => (by cases h), Below.refl _ _⟩
set_option maxRecDepth 100000 in
set_option maxHeartbeats 1600000 in
theorem ft_hj (X : Nat) (L : List UInt8) (n0 : (FloatKind.f64.format.order X X != some .eq) = false) (g : (FloatKind.f64.format.order X 9218868437227405311 == some .gt || FloatKind.f64.format.order X 9218868437227405311 == some .eq) = false) (l : (FloatKind.f64.format.order X 18442240474082181119 == some .lt || FloatKind.f64.format.order X 18442240474082181119 == some .eq) = false) (z : (FloatKind.f64.format.order X 0 == some .eq) = false) (e1 : (FloatKind.f64.format.order X 4921056587992461136 == some .eq) = false) (e2 : (FloatKind.f64.format.order X 14144428624847236944 == some .eq) = false) (e3 : (FloatKind.f64.format.order X 4502148214488346440 == some .eq) = false) (e4 : (FloatKind.f64.format.order X 13725520251343122248 == some .eq) = false) (e5 : (FloatKind.f64.format.order X 4459862875403570764 == some .eq) = false) (e6 : (FloatKind.f64.format.order X 4602678819172646912 == some .eq) = false) (e7 : (FloatKind.f64.format.order X 13836183955189006336 == some .eq) = false) (e8 : (FloatKind.f64.format.order X 4517329193108106637 == some .eq) = false) (gp : (FloatKind.f64.format.order X 14069245235905429504 == some .gt) = true) (lp : (FloatKind.f64.format.order X 4845873199050653696 == some .lt) = false) (w : World) : Calls Tryz.prog 21 #[.float .f64 X] w (FTP L w) := by
  go_enter Tryz.func21, Tryz.ntmps21
  go_wp2
  go_ret2
  exact ⟨_, _, rfl, fun h => (by cases h), Below.refl _ _⟩
set_option maxRecDepth 100000 in
set_option maxHeartbeats 1600000 in
theorem ft_no (X : Nat) (L : List UInt8) (n : Int) (n0 : (FloatKind.f64.format.order X X != some .eq) = false) (g : (FloatKind.f64.format.order X 9218868437227405311 == some .gt || FloatKind.f64.format.order X 9218868437227405311 == some .eq) = false) (l : (FloatKind.f64.format.order X 18442240474082181119 == some .lt || FloatKind.f64.format.order X 18442240474082181119 == some .eq) = false) (z : (FloatKind.f64.format.order X 0 == some .eq) = false) (e1 : (FloatKind.f64.format.order X 4921056587992461136 == some .eq) = false) (e2 : (FloatKind.f64.format.order X 14144428624847236944 == some .eq) = false) (e3 : (FloatKind.f64.format.order X 4502148214488346440 == some .eq) = false) (e4 : (FloatKind.f64.format.order X 13725520251343122248 == some .eq) = false) (e5 : (FloatKind.f64.format.order X 4459862875403570764 == some .eq) = false) (e6 : (FloatKind.f64.format.order X 4602678819172646912 == some .eq) = false) (e7 : (FloatKind.f64.format.order X 13836183955189006336 == some .eq) = false) (e8 : (FloatKind.f64.format.order X 4517329193108106637 == some .eq) = false) (gp : (FloatKind.f64.format.order X 14069245235905429504 == some .gt) = true) (lp : (FloatKind.f64.format.order X 4845873199050653696 == some .lt) = true) (hcv : ∀ w, (convert 22 2 (.float .f64 X)).run Tryz.prog w = .ok (.int .i64 n) w) (he : (FloatKind.f64.format.order (floatOfInt .f64 n) X == some .eq) = false) (w : World) : Calls Tryz.prog 21 #[.float .f64 X] w (FTP L w) := by
  go_enter Tryz.func21, Tryz.ntmps21
  go_wp2
  go_ret2
  exact ⟨_, _, rfl, fun h => (by cases h), Below.refl _ _⟩
set_option maxRecDepth 100000 in
set_option maxHeartbeats 1600000 in
theorem ft_yes (X : Nat) (n : Int) (hn : -9223372036854775808 ≤ n ∧ n ≤ 9223372036854775807) (n0 : (FloatKind.f64.format.order X X != some .eq) = false) (g : (FloatKind.f64.format.order X 9218868437227405311 == some .gt || FloatKind.f64.format.order X 9218868437227405311 == some .eq) = false) (l : (FloatKind.f64.format.order X 18442240474082181119 == some .lt || FloatKind.f64.format.order X 18442240474082181119 == some .eq) = false) (z : (FloatKind.f64.format.order X 0 == some .eq) = false) (e1 : (FloatKind.f64.format.order X 4921056587992461136 == some .eq) = false) (e2 : (FloatKind.f64.format.order X 14144428624847236944 == some .eq) = false) (e3 : (FloatKind.f64.format.order X 4502148214488346440 == some .eq) = false) (e4 : (FloatKind.f64.format.order X 13725520251343122248 == some .eq) = false) (e5 : (FloatKind.f64.format.order X 4459862875403570764 == some .eq) = false) (e6 : (FloatKind.f64.format.order X 4602678819172646912 == some .eq) = false) (e7 : (FloatKind.f64.format.order X 13836183955189006336 == some .eq) = false) (e8 : (FloatKind.f64.format.order X 4517329193108106637 == some .eq) = false) (gp : (FloatKind.f64.format.order X 14069245235905429504 == some .gt) = true) (lp : (FloatKind.f64.format.order X 4845873199050653696 == some .lt) = true) (hcv : ∀ w, (convert 22 2 (.float .f64 X)).run Tryz.prog w = .ok (.int .i64 n) w) (he : (FloatKind.f64.format.order (floatOfInt .f64 n) X == some .eq) = true) (w : World) : Calls Tryz.prog 21 #[.float .f64 X] w (FTP (Lib.itoa n) w) := by
  have HA := Lib.hid (appInt64 w.heap.size (.slice none 0 0) [] n hn w (own_nil _ _) (Nat.le_refl _) (by simp))
  clear hn
  go_enter Tryz.func21, Tryz.ntmps21
  go_wp2_with (go_at_call 19; refine HA.out.mono ?_; rintro e w1 ⟨v, rfl, ho, hb⟩)
  go_ret2
  exact ⟨_, _, rfl, fun _ => rd_of_own ho, hb⟩
end Go.Proofs.YtdkccihoecpcaaaGreatFmt
