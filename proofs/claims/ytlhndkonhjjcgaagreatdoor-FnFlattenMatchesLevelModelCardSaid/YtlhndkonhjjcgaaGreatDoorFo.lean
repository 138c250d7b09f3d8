/- Nested arrays as forests: their tokens, flattening, that depths add, and well-formed tokens. Conditions: none. -/
import Derived.Lib.Hide
namespace Go.Proofs.YtlhndkonhjjcgaaGreatDoor
open Go
/-- A forest: leaves and nodes, one behind the other. -/
inductive Fo where
  | nil : Fo
  | leaf (v : Int) (r : Fo) : Fo
  | node (k r : Fo) : Fo
/-- The tokens of a forest: 1 opens, 2 closes, 0 is a leaf. -/
def Fo.enc : Fo → List (Nat × Int)
  | .nil => []
  | .leaf v r => (0, v) :: r.enc
  | .node k r => (1, 0) :: (k.enc ++ (2, 0) :: r.enc)
def Fo.app : Fo → Fo → Fo
  | .nil, g => g
  | .leaf v r, g => .leaf v (r.app g)
  | .node k r, g => .node k (r.app g)
def Fo.flat : Fo → Option Nat → Fo
  | .nil, _ => .nil
  | .leaf v r, n => .leaf v (r.flat n)
  | .node k r, some 0 => .node k (r.flat (some 0))
  | .node k r, some (n + 1) => (k.flat (some n)).app (r.flat (some (n + 1)))
  | .node k r, none => (k.flat none).app (r.flat none)
/-- How many signs a forest has. -/
def Fo.size : Fo → Nat
  | .nil => 0
  | .leaf _ r => r.size + 1
  | .node k r => k.size + r.size + 2
def Fo.deep : Fo → Nat
  | .nil => 0
  | .leaf _ r => r.deep
  | .node k r => max (k.deep + 1) r.deep
theorem Fo.enc_len (f : Fo) : f.enc.length = f.size := by
  induction f with
  | nil => rfl
  | leaf v r ih => simp [Fo.enc, Fo.size, ih]
  | node k r ih1 ih2 => simp [Fo.enc, Fo.size, ih1, ih2]; omega
theorem Fo.app_nil (f : Fo) : f.app .nil = f := by
  induction f with
  | nil => rfl
  | leaf v r ih => simp [Fo.app, ih]
  | node k r _ ih => simp [Fo.app, ih]
theorem Fo.app_app (f g h : Fo) : (f.app g).app h = f.app (g.app h) := by
  induction f with
  | nil => rfl
  | leaf v r ih => simp [Fo.app, ih]
  | node k r _ ih => simp [Fo.app, ih]
theorem Fo.enc_app (f g : Fo) : (f.app g).enc = f.enc ++ g.enc := by
  induction f with
  | nil => rfl
  | leaf v r ih => simp [Fo.app, Fo.enc, ih]
  | node k r _ ih => simp [Fo.app, Fo.enc, ih]
theorem Fo.size_app (f g : Fo) : (f.app g).size = f.size + g.size := by
  rw [← Fo.enc_len, ← Fo.enc_len, ← Fo.enc_len, Fo.enc_app, List.length_append]
theorem Fo.flat_app (f g : Fo) (n : Option Nat) : (f.app g).flat n = (f.flat n).app (g.flat n) := by
  induction f with
  | nil => rfl
  | leaf v r ih => simp [Fo.app, Fo.flat, ih]
  | node k r _ ih =>
    match n with
    | none => simp [Fo.app, Fo.flat, ih, Fo.app_app]
    | some 0 => simp [Fo.app, Fo.flat, ih]
    | some (n + 1) => simp [Fo.app, Fo.flat, ih, Fo.app_app]
theorem Fo.flat_zero (f : Fo) : f.flat (some 0) = f := by
  induction f with
  | nil => rfl
  | leaf v r ih => simp [Fo.flat, ih]
  | node k r _ ih => simp [Fo.flat, ih]
/-- Depths add. -/
theorem Fo.flat_flat (f : Fo) : ∀ a b : Nat, (f.flat (some a)).flat (some b) = f.flat (some (a + b)) := by
  induction f with
  | nil => intro a b; rfl
  | leaf v r ih => intro a b; simp [Fo.flat, ih]
  | node k r ih1 ih2 =>
    intro a b
    match a with
    | 0 => rw [Fo.flat_zero, Nat.zero_add]
    | a + 1 =>
      have e : a + 1 + b = (a + b) + 1 := by omega
      rw [e]
      simp only [Fo.flat]
      rw [Fo.flat_app, ih1, ih2, e]
theorem Fo.flat_size (f : Fo) : ∀ n, (f.flat n).size ≤ f.size := by
  induction f with
  | nil => intro n; exact Nat.le_refl _
  | leaf v r ih => intro n; have := ih n; simp only [Fo.flat, Fo.size]; omega
  | node k r ih1 ih2 =>
    intro n
    match n with
    | none => have := ih1 none; have := ih2 none; simp only [Fo.flat, Fo.size, Fo.size_app]; omega
    | some 0 => have := ih2 (some 0); simp only [Fo.flat, Fo.size]; omega
    | some (n + 1) => have := ih1 (some n); have := ih2 (some (n + 1)); simp only [Fo.flat, Fo.size, Fo.size_app]; omega
/-- A depth that no node reaches takes all of them away. -/
theorem Fo.flat_deep (f : Fo) : ∀ n, f.deep ≤ n → f.flat (some n) = f.flat none := by
  induction f with
  | nil => intro n _; rfl
  | leaf v r ih => intro n h; simp only [Fo.deep] at h; simp [Fo.flat, ih n h]
  | node k r ih1 ih2 =>
    intro n h
    simp only [Fo.deep] at h
    match n with
    | 0 => omega
    | n + 1 => simp only [Fo.flat]; rw [ih1 n (by omega), ih2 (n + 1) (by omega)]
theorem Fo.deep_size (f : Fo) : f.deep ≤ f.size := by
  induction f with
  | nil => exact Nat.le_refl _
  | leaf v r ih => simp only [Fo.deep, Fo.size]; omega
  | node k r ih1 ih2 => simp only [Fo.deep, Fo.size]; omega
/-! ### Well-formed tokens -/
/-- A token as the decoder takes it: what stands beside a bracket does not count, and every other tag is a leaf. -/
def norm (t : Nat × Int) : Nat × Int := if t.1 = 1 then (1, 0) else if t.1 = 2 then (2, 0) else (0, t.2)
def wf : List (Nat × Int) → Nat → Bool
  | [], l => l == 0
  | t :: ts, l => if t.1 = 1 then wf ts (l + 1) else if t.1 = 2 then (if l = 0 then false else wf ts (l - 1)) else wf ts l
/-- What stands from here to the end: the rest of this array, and of those round it. -/
def close : Fo → List Fo → List (Nat × Int)
  | f, [] => f.enc
  | f, g :: gs => f.enc ++ (2, 0) :: close g gs
theorem close_leaf (v : Int) (f : Fo) (gs : List Fo) : close (.leaf v f) gs = (0, v) :: close f gs := by cases gs <;> simp [close, Fo.enc]
theorem close_node (f g : Fo) (gs : List Fo) : close (.node f g) gs = (1, 0) :: close f (g :: gs) := by cases gs <;> simp [close, Fo.enc]
theorem close_nil (f : Fo) (gs : List Fo) : close .nil (f :: gs) = (2, 0) :: close f gs := by simp [close, Fo.enc]
theorem wf_close : ∀ (ts : List (Nat × Int)) (l : Nat), wf ts l = true → ∃ f gs, gs.length = l ∧ ts.map norm = close f gs
  | [], l, h => ⟨.nil, [], by simp [wf] at h; simp [h], rfl⟩
  | t :: ts, l, h => by
    rw [wf] at h
    by_cases h1 : t.1 = 1
    · rw [if_pos h1] at h
      obtain ⟨f, gs, hg, he⟩ := wf_close ts (l + 1) h
      match gs with
      | [] => simp at hg
      | g :: gs => exact ⟨.node f g, gs, by simpa using hg, by rw [close_node, List.map_cons, he, norm, if_pos h1]⟩
    · rw [if_neg h1] at h
      by_cases h2 : t.1 = 2
      · rw [if_pos h2] at h
        by_cases h0 : l = 0
        · rw [if_pos h0] at h; cases h
        · rw [if_neg h0] at h
          obtain ⟨f, gs, hg, he⟩ := wf_close ts (l - 1) h
          exact ⟨.nil, f :: gs, by simp; omega, by rw [close_nil, List.map_cons, he, norm, if_neg h1, if_pos h2]⟩
      · rw [if_neg h2] at h
        obtain ⟨f, gs, hg, he⟩ := wf_close ts l h
        exact ⟨.leaf t.2 f, gs, hg, by rw [close_leaf, List.map_cons, he, norm, if_neg h1, if_neg h2]⟩
theorem wf_enc (ts : List (Nat × Int)) (h : wf ts 0 = true) : ∃ f : Fo, ts.map norm = f.enc := by
  obtain ⟨f, gs, hg, he⟩ := wf_close ts 0 h
  match gs with
  | [] => exact ⟨f, he⟩
  | g :: gs => simp at hg
theorem norm_norm (t : Nat × Int) : norm (norm t) = norm t := by
  unfold norm
  repeat' split
  all_goals simp_all
theorem enc_norm (f : Fo) : f.enc.map norm = f.enc := by
  induction f with
  | nil => rfl
  | leaf v r ih => simp [Fo.enc, ih, norm]
  | node k r ih1 ih2 => simp [Fo.enc, ih1, ih2, norm]
theorem enc_tag (f : Fo) : ∀ t ∈ f.enc, t.1 < 3 := by
  induction f with
  | nil => intro t h; simp [Fo.enc] at h
  | leaf v r ih => intro t h; simp only [Fo.enc, List.mem_cons] at h; rcases h with rfl | h; exact Nat.zero_lt_succ _; exact ih t h
  | node k r ih1 ih2 =>
    intro t h
    simp only [Fo.enc, List.mem_cons, List.mem_append] at h
    rcases h with rfl | h | rfl | h
    · decide
    · exact ih1 t h
    · decide
    · exact ih2 t h
/-! ### The law's own model: the brackets whose level is kept -/
def em (P : Nat → Bool) : List (Nat × Int) → Nat → List (Nat × Int)
  | [], _ => []
  | t :: ts, l => if t.1 = 1 then (if P l then [(1, 0)] else []) ++ em P ts (l + 1) else if t.1 = 2 then (if P (l - 1) then [(2, 0)] else []) ++ em P ts (l - 1) else (0, t.2) :: em P ts l
def Fo.lvl (P : Nat → Bool) : Fo → Nat → List (Nat × Int)
  | .nil, _ => []
  | .leaf v r, l => (0, v) :: r.lvl P l
  | .node k r, l => (if P l then [(1, 0)] else []) ++ (k.lvl P (l + 1) ++ ((if P l then [(2, 0)] else []) ++ r.lvl P l))
theorem em_enc (P : Nat → Bool) (f : Fo) : ∀ (l : Nat) (ts : List (Nat × Int)), em P (f.enc ++ ts) l = f.lvl P l ++ em P ts l := by
  induction f with
  | nil => intro l ts; simp [Fo.enc, Fo.lvl]
  | leaf v r ih => intro l ts; simp [Fo.enc, Fo.lvl, em, ih]
  | node k r ih1 ih2 => intro l ts; simp [Fo.enc, Fo.lvl, em, ih1, ih2]
theorem em_norm (P : Nat → Bool) : ∀ (ts : List (Nat × Int)) (l : Nat), em P (ts.map norm) l = em P ts l
  | [], _ => rfl
  | t :: ts, l => by
    rw [List.map_cons, em, em, em_norm P ts, em_norm P ts, em_norm P ts]
    by_cases h1 : t.1 = 1
    · simp [norm, h1]
    · by_cases h2 : t.1 = 2
      · simp [norm, h2]
      · simp [norm, h1, h2]
theorem lvl_some (n : Nat) (f : Fo) : ∀ l, f.lvl (fun j => decide (n ≤ j)) l = (f.flat (some (n - l))).enc := by
  induction f with
  | nil => intro l; rfl
  | leaf v r ih => intro l; simp [Fo.lvl, Fo.flat, Fo.enc, ih]
  | node k r ih1 ih2 =>
    intro l
    rw [Fo.lvl, ih1, ih2]
    by_cases h : n ≤ l
    · have e1 : n - l = 0 := by omega
      have e2 : n - (l + 1) = 0 := by omega
      rw [e1, e2, Fo.flat_zero, Fo.flat_zero, Fo.flat_zero]
      simp [h, Fo.enc]
    · obtain ⟨m, hm⟩ : ∃ m, n - l = m + 1 := ⟨n - l - 1, by omega⟩
      have e2 : n - (l + 1) = m := by omega
      rw [hm, e2]
      simp [h, Fo.flat, Fo.enc_app]
theorem lvl_none (f : Fo) : ∀ l, f.lvl (fun _ => false) l = (f.flat none).enc := by
  induction f with
  | nil => intro l; rfl
  | leaf v r ih => intro l; simp [Fo.lvl, Fo.flat, Fo.enc, ih]
  | node k r ih1 ih2 => intro l; simp [Fo.lvl, ih1, ih2, Fo.flat, Fo.enc_app]
end Go.Proofs.YtlhndkonhjjcgaaGreatDoor
