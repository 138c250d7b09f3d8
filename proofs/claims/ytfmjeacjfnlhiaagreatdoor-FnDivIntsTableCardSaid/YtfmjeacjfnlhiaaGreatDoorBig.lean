/- The least int by minus one: a big number, walked. Conditions: none. -/
import Derived.Test.YtfmjeacjfnlhiaaGreatDoorDivT
import Derived.Laws.CopyRow
import Derived.Deep.WholeRow
import Derived.Outline
import Derived.Deep.RegionHeld3
import Derived.Deep.DrawnRows
namespace Go.Proofs.YtfmjeacjfnlhiaaGreatDoor
open Go.RowKit Go
/-- 2 to the 63. -/
def D63 : Int := 9223372036854775808
set_option maxRecDepth 100000 in
set_option maxHeartbeats 1600000 in
theorem newInt_min (w : World) : Calls Tryz.prog 33 #[.int .i64 (-9223372036854775808)] w
    (Ret (.pointer (some ⟨w.heap.size + 1, 0, none⟩)) ((w.alloc (.cells #[.int .u64 D63] 88)).alloc (.cells #[.bool true, .slice (some ⟨w.heap.size, 0, none⟩) 1 1] 39))) := by
  have hU : IntKind.u64.wrap (-IntKind.u64.wrap (-9223372036854775808)) = D63 := by decide
  go_enter Tryz.func33, Tryz.ntmps33
  go_wp2
  go_ret
  exact ⟨rfl, rfl⟩
theorem run_copy_one (w : World) (t1 t2 ty : TypeId) (g : Nat) (c1 b c2 : Nat) (d z : Int) (hu : Tryz.prog.underlying t1 = some (.slice 88)) (hg : w.heap[g]? = some (.cells #[.int .u64 z] 88 (0, 0))) (hc : w.cell? ⟨b, 0, none⟩ = some (.int .u64 d)) :
    (Builtin.copy_ #[t1, t2] ty #[.slice (some ⟨g, 0, none⟩) 1 c1, .slice (some ⟨b, 0, none⟩) 1 c2]).run Tryz.prog w = .ok (goInt 1) (w.setRow g #[.int .u64 d]) := by
  have := run_copy_row (P := Tryz.prog) w t1 t2 ty 88 g 0 1 c1 ⟨b, 0, none⟩ 1 c2 #[.int .u64 z] 88 [.int .u64 d] hu (by kernel_rfl) hg rfl
    (fun j v hj => by
      match j, hj with
      | 0, hj =>
        cases hj
        simpa [Addr.add] using hc) (by simp) (by intro v hv; simp at hv; subst hv; rfl)
  rw [this]
  rfl
set_option maxRecDepth 100000 in
set_option maxHeartbeats 1600000 in
theorem natSet_one (b c : Nat) (d : Int) (w : World) (hc : w.cell? ⟨b, 0, none⟩ = some (.int .u64 d)) :
    Calls Tryz.prog 47 #[.slice none 0 0, .slice (some ⟨b, 0, none⟩) 1 c] w (Ret (.slice (some ⟨w.heap.size, 0, none⟩) 1 1) (w.alloc (.cells #[.int .u64 d] 88))) := by
  have hb : b < w.heap.size := World.block_lt_of_cell? _ _ hc
  have hmk : ∀ w, (Instr.makeSlice 37 (.int .i64 1) (.int .i64 1)).run Tryz.prog w = .ok (.slice (some ⟨w.heap.size, 0, none⟩) 1 1) (w.alloc (.cells #[.int .u64 0] 88)) := fun _ => by kernel_rfl
  have hcp := fun ty => run_copy_one (w.alloc (.cells #[.int .u64 0] 88)) 37 37 ty w.heap.size 1 b c d 0 Tryz.underlying37 (heap_alloc_new w _) (by rw [World.cell?_alloc_lt (h := hb)]; exact hc)
  have hsr := World.setRow_alloc_new w #[.int .u64 0] #[.int .u64 d] 88
  rw [hsr] at hcp
  clear hsr
  go_enter Tryz.func47, Tryz.ntmps47
  go_wp2_with (go_at_call 64; go_in)
  go_ret
  exact ⟨rfl, rfl⟩
theorem run_neq_ptr_other {P : Program} (w : World) {tp te : TypeId} {j : TypeInfo} {a b : Addr} {ca cb : Array Value} {ta tb : TypeId} (hp : P.underlying tp = some (.pointer te)) (hte : P.info? te = some j) (hsz : j.size ≠ 0)
    (hne : a ≠ b) (ha : w.heap[a.block]? = some (.cells ca ta (0, 0))) (hb : w.heap[b.block]? = some (.cells cb tb (0, 0))) :
    (binOp .neq tp (.pointer (some a)) (.pointer (some b))).run P w = .ok (.bool true) w := by
  have h : ∀ d : Nat, (Op.equalIn (d + 1) tp (.pointer (some a)) (.pointer (some b))).run P w = .ok false w := fun d => by
    simp [Op.equalIn, run_underlying hp, sizeOf, typeInfo, hte, hsz, run_sameAddr_other w hne ha hb]
  simp only [binOp]
  simp [Op.equal, Op.maxDepth, h 9999]
theorem info_big : ∃ j, Tryz.prog.info? 39 = some j ∧ j.size ≠ 0 := by
  have h : (Tryz.prog.info? 39).map (·.size) = some 2 := by kernel_rfl
  cases e : Tryz.prog.info? 39 with
  | none => rw [e] at h; simp at h
  | some j => rw [e] at h; simp at h; exact ⟨j, rfl, by omega⟩
theorem cell_of {w : World} {b o : Nat} {cs : Array Value} {t : TypeId} (h : w.heap[b]? = some (.cells cs t (0, 0))) : w.cell? ⟨b, o, none⟩ = cs[o]? := by simp [World.cell?, h]
theorem free_of {w : World} {b o : Nat} {cs : Array Value} {t : TypeId} (h : w.heap[b]? = some (.cells cs t (0, 0))) : w.frozen? ⟨b, o, none⟩ = false := by simp [World.frozen?, h]
/-- It returns v; the world is w0 behind draws. -/
def RetN (v : Value) (w0 : World) (e : Ending) (w' : World) : Prop := e = .returned v ∧ ∃ n, w' = w0.drewN n
set_option maxRecDepth 100000 in
set_option maxHeartbeats 1600000 in
theorem set_one (zb xb b c : Nat) (nz nx : Bool) (d : Int) (w : World) (hne : zb ≠ xb) (hz : w.heap[zb]? = some (.cells #[.bool nz, .slice none 0 0] 39 (0, 0)))
    (hx : w.heap[xb]? = some (.cells #[.bool nx, .slice (some ⟨b, 0, none⟩) 1 c] 39 (0, 0))) (hb : w.cell? ⟨b, 0, none⟩ = some (.int .u64 d)) :
    Calls Tryz.prog 30 #[.pointer (some ⟨zb, 0, none⟩), .pointer (some ⟨xb, 0, none⟩)] w
      (RetN (.pointer (some ⟨zb, 0, none⟩)) (((w.setCell ⟨zb, 1, none⟩ (.slice (some ⟨w.heap.size, 0, none⟩) 1 1)).setCell ⟨zb, 0, none⟩ (.bool nx)).alloc (.cells #[.int .u64 d] 88))) := by
  obtain ⟨j, hj, hj0⟩ := info_big
  have hq := run_neq_ptr_other (P := Tryz.prog) w (tp := 35) (a := ⟨zb, 0, none⟩) (b := ⟨xb, 0, none⟩) (by kernel_rfl) hj hj0 (fun e => hne (by cases e; rfl)) hz hx
  have z0 := cell_of (o := 0) hz
  have z1 := cell_of (o := 1) hz
  have x0 := cell_of (o := 0) hx
  have x1 := cell_of (o := 1) hx
  have f0 := free_of (o := 0) hz
  have f1 := free_of (o := 1) hz
  simp at z0 z1 x0 x1
  have hzb : zb < w.heap.size := World.block_lt_of_cell? w ⟨zb, 0, none⟩ z0
  have hxb : xb < w.heap.size := World.block_lt_of_cell? w ⟨xb, 0, none⟩ x0
  have n1 := World.new_ne w _ z1
  have n2 := World.new_ne w _ x1
  have n3 := World.new_ne w _ hb
  clear hz hx hj hj0
  go_enter Tryz.func30, Tryz.ntmps30
  go_wp2
  go_region_with (go_at_call 47; refine (natSet_one b c d _ ?_).mono ?_; (simp [*]); rintro e w' ⟨rfl, rfl⟩)
  all_goals go_wp2
  all_goals go_ret
  all_goals exact ⟨rfl, 1, rfl⟩
/-- Nothing but block b has changed of what was there. -/
structure Off (b : Nat) (w w' : World) : Prop where
  os : w'.os = w.os
  tape : w'.tape = w.tape
  output : w'.output = w.output
  size : w.heap.size ≤ w'.heap.size
  block : ∀ k, k < w.heap.size → k ≠ b → w'.heap[k]? = w.heap[k]?
theorem Off.refl (b : Nat) (w : World) : Off b w w := ⟨rfl, rfl, rfl, Nat.le_refl _, fun _ _ _ => rfl⟩
theorem Off.trans {b : Nat} {x y z : World} (h : Off b x y) (k : Off b y z) : Off b x z :=
  ⟨k.os.trans h.os, k.tape.trans h.tape, k.output.trans h.output, Nat.le_trans h.size k.size, fun i hi h1 => (k.block i (Nat.lt_of_lt_of_le hi h.size) h1).trans (h.block i hi h1)⟩
theorem Off.drewN {b : Nat} {a w : World} (h : Off b a w) (n : Nat) : Off b a (w.drewN n) := h.trans ⟨rfl, rfl, rfl, Nat.le_refl _, fun _ _ _ => rfl⟩
theorem Off.alloc {b : Nat} {a w : World} (h : Off b a w) (o : Obj) : Off b a (w.alloc o) := h.trans ⟨rfl, rfl, rfl, by simp, fun k hk _ => Below.heap_alloc _ _ _ hk⟩
theorem Off.setCell {b : Nat} {a w : World} (h : Off b a w) (o : Nat) (v : Value) : Off b a (w.setCell ⟨b, o, none⟩ v) :=
  h.trans ⟨rfl, rfl, rfl, by simp [World.setCell], fun k _ h1 => Below.heap_setCell _ _ _ _ h1⟩
theorem Off.below {b B : Nat} {w w' : World} (h : Off b w w') (h1 : B ≤ b) (h3 : B ≤ w.heap.size) : Below B w w' := ⟨h.os, h.tape, h.output, h.size, fun k hk => h.block k (by omega) (by omega)⟩
/-- Block zb is the number d of one word; the word lies in gb. -/
structure BigOne (w : World) (zb gb : Nat) (d : Int) : Prop where
  row : w.heap[zb]? = some (.cells #[.bool false, .slice (some ⟨gb, 0, none⟩) 1 1] 39 (0, 0))
  word : w.heap[gb]? = some (.cells #[.int .u64 d] 88 (0, 0))
  ne : zb ≠ gb
theorem set_end (zb : Nat) (nz nx : Bool) (d : Int) (n : Nat) (w : World) (hzb : zb < w.heap.size) (hz : w.heap[zb]? = some (.cells #[.bool nz, .slice none 0 0] 39 (0, 0))) :
    BigOne ((((((w.setCell ⟨zb, 1, none⟩ (.slice (some ⟨w.heap.size, 0, none⟩) 1 1)).setCell ⟨zb, 0, none⟩ (.bool nx)).alloc (.cells #[.int .u64 d] 88)).drewN n).setCell ⟨zb, 0, none⟩ (.bool false))) zb w.heap.size d ∧
    Off zb w ((((((w.setCell ⟨zb, 1, none⟩ (.slice (some ⟨w.heap.size, 0, none⟩) 1 1)).setCell ⟨zb, 0, none⟩ (.bool nx)).alloc (.cells #[.int .u64 d] 88)).drewN n).setCell ⟨zb, 0, none⟩ (.bool false))) := by
  have h1 := heap_setCell_same w zb 1 _ _ (.slice (some ⟨w.heap.size, 0, none⟩) 1 1) hz
  have h2 := heap_setCell_same _ zb 0 _ _ (.bool nx) h1
  have s2 : (((w.setCell ⟨zb, 1, none⟩ (.slice (some ⟨w.heap.size, 0, none⟩) 1 1)).setCell ⟨zb, 0, none⟩ (.bool nx))).heap.size = w.heap.size := by simp [World.setCell]
  have h3 : ((((w.setCell ⟨zb, 1, none⟩ (.slice (some ⟨w.heap.size, 0, none⟩) 1 1)).setCell ⟨zb, 0, none⟩ (.bool nx)).alloc (.cells #[.int .u64 d] 88)).drewN n).heap[zb]? = _ := (Below.heap_alloc _ (.cells #[.int .u64 d] 88) zb (by rw [s2]; exact hzb)).trans h2
  have g3 : ((((w.setCell ⟨zb, 1, none⟩ (.slice (some ⟨w.heap.size, 0, none⟩) 1 1)).setCell ⟨zb, 0, none⟩ (.bool nx)).alloc (.cells #[.int .u64 d] 88)).drewN n).heap[w.heap.size]? = some (.cells #[.int .u64 d] 88 (0, 0)) := by
    have := heap_alloc_new ((w.setCell ⟨zb, 1, none⟩ (.slice (some ⟨w.heap.size, 0, none⟩) 1 1)).setCell ⟨zb, 0, none⟩ (.bool nx)) (.cells #[.int .u64 d] 88)
    rw [s2] at this
    exact this
  have h4 := heap_setCell_same _ zb 0 _ _ (.bool false) h3
  refine ⟨⟨?_, ?_, by omega⟩, (((((Off.refl zb w).setCell 1 _).setCell 0 _).alloc _).drewN n).setCell 0 _⟩
  · rw [h4]; rfl
  · rw [Below.heap_setCell _ _ _ _ (show w.heap.size ≠ zb by omega)]
    exact g3
set_option maxRecDepth 100000 in
set_option maxHeartbeats 1600000 in
theorem neg_one (zb xb b c : Nat) (d : Int) (w : World) (hne : zb ≠ xb) (hz : w.heap[zb]? = some (.cells #[.bool false, .slice none 0 0] 39 (0, 0)))
    (hx : w.heap[xb]? = some (.cells #[.bool true, .slice (some ⟨b, 0, none⟩) 1 c] 39 (0, 0))) (hb : w.cell? ⟨b, 0, none⟩ = some (.int .u64 d)) :
    Calls Tryz.prog 34 #[.pointer (some ⟨zb, 0, none⟩), .pointer (some ⟨xb, 0, none⟩)] w
      (fun e w' => e = .returned (.pointer (some ⟨zb, 0, none⟩)) ∧ BigOne w' zb w.heap.size d ∧ Off zb w w') := by
  have HS := Lib.hid (set_one zb xb b c false true d w hne hz hx hb)
  have z0 := cell_of (o := 0) hz
  have z1 := cell_of (o := 1) hz
  have f0 := free_of (o := 0) hz
  simp at z0 z1
  have hzb : zb < w.heap.size := World.block_lt_of_cell? w ⟨zb, 0, none⟩ z0
  have n1 := World.new_ne w _ z1
  have HE := Lib.hid (fun n => set_end zb false true d n w hzb hz)
  have hnot : ∀ (x : Bool) (w : World), (Op.unary .not (.bool x)).run Tryz.prog w = .ok (.bool (!x)) w := fun _ _ => rfl
  clear hz hx
  go_enter Tryz.func34, Tryz.ntmps34
  go_wp2_with (go_at_call 30; refine HS.out.mono ?_; rintro e w' ⟨rfl, n, rfl⟩)
  go_ret
  exact ⟨rfl, (HE.out n).1, (HE.out n).2⟩
set_option maxRecDepth 100000 in
set_option maxHeartbeats 1600000 in
theorem abs_one (zb xb b c : Nat) (d : Int) (w : World) (hne : zb ≠ xb) (hz : w.heap[zb]? = some (.cells #[.bool false, .slice none 0 0] 39 (0, 0)))
    (hx : w.heap[xb]? = some (.cells #[.bool false, .slice (some ⟨b, 0, none⟩) 1 c] 39 (0, 0))) (hb : w.cell? ⟨b, 0, none⟩ = some (.int .u64 d)) :
    Calls Tryz.prog 14 #[.pointer (some ⟨zb, 0, none⟩), .pointer (some ⟨xb, 0, none⟩)] w
      (fun e w' => e = .returned (.pointer (some ⟨zb, 0, none⟩)) ∧ BigOne w' zb w.heap.size d ∧ Off zb w w') := by
  have HS := Lib.hid (set_one zb xb b c false false d w hne hz hx hb)
  have z0 := cell_of (o := 0) hz
  have z1 := cell_of (o := 1) hz
  have f0 := free_of (o := 0) hz
  simp at z0 z1
  have hzb : zb < w.heap.size := World.block_lt_of_cell? w ⟨zb, 0, none⟩ z0
  have n1 := World.new_ne w _ z1
  have HE := Lib.hid (fun n => set_end zb false false d n w hzb hz)
  clear hz hx
  go_enter Tryz.func14, Tryz.ntmps14
  go_wp2_with (go_at_call 30; refine HS.out.mono ?_; rintro e w' ⟨rfl, n, rfl⟩)
  go_ret
  exact ⟨rfl, (HE.out n).1, (HE.out n).2⟩
set_option maxRecDepth 100000 in
theorem sign_one (zb gb : Nat) (d : Int) (w : World) (h : BigOne w zb gb d) : Calls Tryz.prog 15 #[.pointer (some ⟨zb, 0, none⟩)] w (Ret (.int .i64 1) w) := by
  have z0 := cell_of (o := 0) h.row
  have z1 := cell_of (o := 1) h.row
  have g0 := cell_of (o := 0) h.word
  have hnot : ∀ (x : Bool) (w : World), (Op.unary .not (.bool x)).run Tryz.prog w = .ok (.bool (!x)) w := fun _ _ => rfl
  simp at z0 z1 g0
  clear h
  go_enter Tryz.func15, Tryz.ntmps15
  go_wp2
  go_ret
  exact ⟨rfl, rfl⟩
set_option maxRecDepth 100000 in
theorem isU64_one (zb gb : Nat) (d : Int) (w : World) (h : BigOne w zb gb d) : Calls Tryz.prog 16 #[.pointer (some ⟨zb, 0, none⟩)] w (Ret (.bool true) w) := by
  have z0 := cell_of (o := 0) h.row
  have z1 := cell_of (o := 1) h.row
  have g0 := cell_of (o := 0) h.word
  have hnot : ∀ (x : Bool) (w : World), (Op.unary .not (.bool x)).run Tryz.prog w = .ok (.bool (!x)) w := fun _ _ => rfl
  simp at z0 z1 g0
  clear h
  go_enter Tryz.func16, Tryz.ntmps16
  go_wp2
  go_ret
  exact ⟨rfl, rfl⟩
set_option maxRecDepth 100000 in
theorem u64_one (zb gb : Nat) (d : Int) (w : World) (h : BigOne w zb gb d) : Calls Tryz.prog 17 #[.pointer (some ⟨zb, 0, none⟩)] w (Ret (.int .u64 d) w) := by
  have z0 := cell_of (o := 0) h.row
  have z1 := cell_of (o := 1) h.row
  have g0 := cell_of (o := 0) h.word
  have hnot : ∀ (x : Bool) (w : World), (Op.unary .not (.bool x)).run Tryz.prog w = .ok (.bool (!x)) w := fun _ _ => rfl
  simp at z0 z1 g0
  clear h
  go_enter Tryz.func17, Tryz.ntmps17
  go_wp2
  go_ret
  exact ⟨rfl, rfl⟩
/-- The number 2 to the 63 in new blocks. -/
def BigPost (w : World) (e : Ending) (w' : World) : Prop := ∃ zb gb, e = .returned (.iface 35 (.pointer (some ⟨zb, 0, none⟩))) ∧ BigOne w' zb gb D63 ∧ Below w.heap.size w w'
set_option maxRecDepth 100000 in
set_option maxHeartbeats 1600000 in
theorem negate_min (w : World) : Calls Tryz.prog 20 #[.int .i64 (-9223372036854775808)] w (BigPost w) := by
  go_enter Tryz.func20, Tryz.ntmps20
  go_wp2_with (go_at_call 33; refine (newInt_min _).mono ?_; rintro e w' ⟨rfl, rfl⟩)
  refine (neg_one w.heap.size (w.heap.size + 1 + 1) (w.heap.size + 1) 1 D63 _ (by omega) ?_ ?_ ?_).mono ?_
  · rw [Below.heap_alloc _ _ _ (by simp; omega), Below.heap_alloc _ _ _ (by simp)]
    exact heap_alloc_new w _
  · have e : w.heap.size + 1 + 1 = ((w.alloc (.cells #[.bool false, .slice none 0 0] 39)).alloc (.cells #[.int .u64 D63] 88)).heap.size := by simp
    rw [e]
    exact heap_alloc_new _ _
  · have e : w.heap.size + 1 = (w.alloc (.cells #[.bool false, .slice none 0 0] 39)).heap.size := by simp
    rw [World.cell?_alloc_lt (h := by simp), e, World.cell?_alloc_new]
    rfl
  rintro e w' ⟨rfl, hB, hO⟩
  have HB := Lib.hid hB
  have HL := Lib.hid (show Below w.heap.size w w' from ((((Below.refl _ _).alloc (Nat.le_refl _) _).alloc (by simp) _).alloc (by simp; omega) _).trans (hO.below (Nat.le_refl _) (by simp; omega)))
  go_wp2
  go_ret
  exact ⟨_, _, rfl, HB.out, HL.out⟩
set_option maxRecDepth 100000 in
theorem div1_big (w : World) : Calls Tryz.prog 19 #[.int .i64 (-9223372036854775808), .int .i64 (-1)] w (BigPost w) := by
  go_enter Tryz.func19, Tryz.ntmps19
  go_wp2_with (go_at_call 20; refine (negate_min _).mono ?_; rintro e w' ⟨zb, gb, rfl, hB, hL⟩)
  go_ret
  exact ⟨_, _, rfl, hB, hL⟩
set_option maxRecDepth 100000 in
set_option maxHeartbeats 1600000 in
theorem classify_big (zb gb : Nat) (w : World) (h : BigOne w zb gb D63) : Calls Tryz.prog 12 #[.iface 35 (.pointer (some ⟨zb, 0, none⟩))] w (RetB (.agg #[.int .i64 4, .int .i64 0, .float .f64 0, .string ⟨#[]⟩, .slice none 0 0, .int .i64 1, .bool true, .int .u64 D63]) w) := by
  have hzb : zb < w.heap.size := World.block_lt_of_cell? w ⟨zb, 0, none⟩ (cell_of (o := 0) h.row)
  have hgb : gb < w.heap.size := World.block_lt_of_cell? w ⟨gb, 0, none⟩ (cell_of (o := 0) h.word)
  have HH := Lib.hid h
  clear h
  go_enter Tryz.func12, Tryz.ntmps12
  go_wp2_with fail
  refine (abs_one (w.heap.size + 1) zb gb 1 D63 _ (by omega) ?_ ?_ ?_).mono ?_
  · have e : w.heap.size + 1 = (w.alloc (.cells #[.int .i64 0, .int .i64 0, .float .f64 0, .string ⟨#[]⟩, .slice none 0 0, .int .i64 0, .bool false, .int .u64 0] 26)).heap.size := by simp
    rw [e]
    exact heap_alloc_new _ _
  · rw [Below.heap_alloc _ _ _ (by simp; omega), Below.heap_alloc _ _ _ hzb]
    exact HH.out.row
  · rw [World.cell?_alloc_lt (h := by simp; omega), World.cell?_alloc_lt (h := hgb)]
    exact cell_of (o := 0) HH.out.word
  rintro e w' ⟨rfl, hB, hO⟩
  have hcO : ∀ o, w'.cell? ⟨w.heap.size, o, none⟩ = _ := fun o => World.cell?_of_block (hO.block w.heap.size (by simp; omega) (by omega))
  have hfO : ∀ o, w'.frozen? ⟨w.heap.size, o, none⟩ = _ := fun o => World.frozen?_of_block (a := ⟨w.heap.size, o, none⟩) (hO.block w.heap.size (by simp; omega) (by omega))
  have hV : BigOne w' zb gb D63 := ⟨by rw [hO.block zb (by simp; omega) (by omega), Below.heap_alloc _ _ _ (by simp; omega), Below.heap_alloc _ _ _ hzb]; exact HH.out.row, by rw [hO.block gb (by simp; omega) (by omega), Below.heap_alloc _ _ _ (by simp; omega), Below.heap_alloc _ _ _ hgb]; exact HH.out.word, HH.out.ne⟩
  have HL := Lib.hid (show Below w.heap.size w w' from (((Below.refl _ _).alloc (Nat.le_refl _) _).alloc (by simp) _).trans (hO.below (by omega) (by simp; omega)))
  have H1 := Lib.hid (sign_one zb gb D63 w' hV)
  have H2 := Lib.hid (isU64_one _ _ D63 w' hB)
  have H3 := Lib.hid (u64_one _ _ D63 w' hB)
  clear hV hB hO
  go_wp2_with (first | (go_at_call 15; refine H1.out.mono ?_; rintro e w1 ⟨rfl, rfl⟩) | (go_at_call 16; refine H2.out.mono ?_; rintro e w1 ⟨rfl, rfl⟩) | (go_at_call 17; refine H3.out.mono ?_; rintro e w1 ⟨rfl, rfl⟩))
  exact bodyPost_ret (v := .agg #[.int .i64 4, .int .i64 0, .float .f64 0, .string ⟨#[]⟩, .slice none 0 0, .int .i64 1, .bool true, .int .u64 D63]) (by simp [results, Tryz.results12, go_sem, hcO]) rfl ⟨rfl, below8 HL.out _ (Nat.le_refl _) _ _ _ _ _ _ _ _⟩
set_option maxRecDepth 100000 in
set_option maxHeartbeats 1600000 in
theorem zz_div_big (w : World) : Calls Tryz.prog 5 #[.int .i64 (-9223372036854775808), .int .i64 (-1)] w (RetB (.agg #[.int .i64 4, .int .i64 0, .float .f64 0, .string ⟨#[]⟩, .slice none 0 0, .int .i64 1, .bool true, .int .u64 D63]) w) := by
  go_enter Tryz.func5, Tryz.ntmps5
  go_wp2_with (first | (go_at_call 13; go_in) | (go_at_call 18; go_in) | (go_at_call 19; refine (div1_big _).mono ?_; rintro e w0 ⟨zb, gb, rfl, hB, hb0⟩; obtain ⟨hc0, hf0⟩ := bcell hb0; have hz0 : w.heap.size < w0.heap.size := by (have := hb0.size; simp at this; omega)) | (go_at_call 12; refine (classify_big _ _ _ hB).mono ?_; rintro e w1 ⟨rfl, hb⟩; obtain ⟨hc, hf⟩ := bcell hb))
  exact bodyPost_ret (v := .agg #[.int .i64 4, .int .i64 0, .float .f64 0, .string ⟨#[]⟩, .slice none 0 0, .int .i64 1, .bool true, .int .u64 D63]) (by simp [results, Tryz.results5, go_sem, hc, hc0, hz0]) rfl ⟨rfl, below8 ((((Below.refl _ _).alloc (Nat.le_refl _) _).trans (hb0.mono (by simp))).trans (hb.mono (by have h1 := hb0.size; simp at h1; omega))) _ (Nat.le_refl _) _ _ _ _ _ _ _ _⟩
set_option maxRecDepth 100000 in
set_option maxHeartbeats 1600000 in
theorem lawDivTable (l r : Int) (hl : -9223372036854775808 ≤ l ∧ l ≤ 9223372036854775807) (hr : -9223372036854775808 ≤ r ∧ r ≤ 9223372036854775807) (w : World) :
    Calls Tryz.prog 3 #[.int .i64 l, .int .i64 r] w (RetB (.bool true) w) := by
  by_cases h : l = -9223372036854775808 ∧ r = -1
  · obtain ⟨rfl, rfl⟩ := h
    have hD : (D63 == 9223372036854775808) = true := by decide
    have m1 : ∀ w, Calls Tryz.prog 6 #[.int .i64 (-9223372036854775808)] w (Ret (.int .u64 9223372036854775808) w) := fun w => mag_any _ hl w
    have m2 : ∀ w, Calls Tryz.prog 6 #[.int .i64 (-1)] w (Ret (.int .u64 1) w) := fun w => mag_any _ hr w
    clear hl hr
    go_enter Tryz.func3, Tryz.ntmps3
    go_wp2_with fail
    refine (zz_div_big _).mono ?_
    rintro e w1 ⟨rfl, hb⟩
    go_wp2_with fail
    refine (m1 _).mono ?_
    rintro e w' ⟨rfl, rfl⟩
    go_wp2_with fail
    refine (m2 _).mono ?_
    rintro e w' ⟨rfl, rfl⟩
    go_wp2
    go_ret
    exact ⟨ret_bool (by first | rfl | (simp; done) | simp [hD]), hb.alloc hb.size _⟩
  · exact lawDivTable_of l r hl hr h w
end Go.Proofs.YtfmjeacjfnlhiaaGreatDoor
