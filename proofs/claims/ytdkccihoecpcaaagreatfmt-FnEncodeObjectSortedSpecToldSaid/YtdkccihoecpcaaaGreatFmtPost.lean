/- What stands behind a call that returns true and leaves all that was there: the row's post, for whatever arguments. Conditions: the types of the parameters and of the named variables are readable (closed facts). -/
import Derived.Test.YtdkccihoecpcaaaGreatFmtProg
import Derived.ProofKit
import Derived.WalkKit
import Derived.OpenShut
namespace Go.Proofs.YtdkccihoecpcaaaGreatFmt
open Go.RowKit Go.ChangeShapes Go.WideElems Go
/-- The types listed are readable, and are types of the program. -/
def typesReadB (P : Program) (ts : List TypeId) : Bool := ts.all fun t => P.readableRec t && decide (t < P.types.size)
def varsReadB (P : Program) (ns : List String) : Bool := ns.all fun n => match P.globalNamed n with
  | some g => (match (P.globals[g]?).map (·.type) with | some t => P.readableRec t && decide (t < P.types.size) | none => false)
  | none => false
section
variable {H : Type} {enc : TypeId × Value → H} {P : Program} {W W' : World}
theorem below_trodAll (hl : laidOutB P = true) (hb : Below W.heap.size W W') : ∀ {ts : List TypeId} {vs : List Value} {ds : List (DataW H)} {ps : List MemPlace}, typesReadB P ts = true →
    DataW.TrodAll enc P W 0 (fun _ => true) true ts vs ds ps → (∀ x ∈ ps, x.block < W.heap.size) → DataW.TrodAll enc P W' 0 (fun b => decide (b < W.heap.size)) true ts vs ds ps
  | [], vs, ds, ps, _, h, _ => by
    obtain ⟨rfl, rfl, rfl⟩ := trodAll_nil h
    exact rfl
  | t :: ts, vs, ds, ps, hr, h, hlt => by
    obtain ⟨v, vs', d, ds', p, q, rfl, rfl, rfl, h1, h2⟩ := trodAll_cons h
    unfold typesReadB at hr
    simp only [List.all_cons, Bool.and_eq_true, decide_eq_true_eq] at hr
    exact ⟨p, q, Below.trod hl hr.1.1 hr.1.2 h1 hb (fun x hx => hlt x (List.mem_append_left _ hx)), below_trodAll hl hb (by unfold typesReadB; exact hr.2) h2 (fun x hx => hlt x (List.mem_append_right _ hx)), rfl⟩
theorem below_trodVars (hl : laidOutB P = true) (hb : Below W.heap.size W W') : ∀ {ns : List String} {gs : List (DataW H)} {ps : List MemPlace}, varsReadB P ns = true →
    DataW.TrodVars enc P W (fun _ => true) ns gs ps → (∀ x ∈ ps, x.block < W.heap.size) → DataW.TrodVars enc P W' (fun b => decide (b < W.heap.size)) ns gs ps
  | [], [], ps, _, h, _ => h
  | [], _ :: _, _, _, h, _ => h.elim
  | _ :: _, [], _, _, h, _ => h.elim
  | n :: ns, d :: gs, ps, hr, h, hlt => by
    obtain ⟨g, t, cs, fuel, p, q, hg, ht, hv, hd, hrest, rfl⟩ := h
    unfold varsReadB at hr
    simp only [List.all_cons, Bool.and_eq_true] at hr
    obtain ⟨hr1, hr2⟩ := hr
    rw [hg] at hr1
    simp only [ht, Bool.and_eq_true, decide_eq_true_eq] at hr1
    have hgB : g < W.heap.size := by
      unfold World.var? at hv
      simp only [hg, Option.bind_some] at hv
      by_cases e : g < W.heap.size
      · exact e
      · rw [Array.getElem?_eq_none (by omega)] at hv; simp at hv
    refine ⟨g, t, cs, fuel, p, q, hg, ht, ?_, ?_, below_trodVars hl hb (by unfold varsReadB; exact hr2) hrest (fun x hx => hlt x (List.mem_append_right _ hx)), rfl⟩
    · unfold World.var? at hv ⊢
      simp only [hg, Option.bind_some] at hv ⊢
      rw [hb.block g hgB]
      exact hv
    · exact DataW.trod_stays (kids_book hl hr1.1) (book_sized hr1.1) (fun h => by cases h) ⟨hr1.2, book_self t⟩ hd (fun x hx => hb.same (hlt x (by simp [hx]))) (fun x hx => by simpa using hlt x (by simp [hx]))
theorem law_post {f : Func} {s : ChangeSpec} {args : Array Value} {ds gs : List (DataW H)} {before : List MemPlace} {tb : TypeId} (hl : laidOutB P = true) (hb : Below W.heap.size W W')
    (hW : DataW.Whole enc P f.params.toList s.vars false W args.toList ds gs before) (hp : typesReadB P f.params.toList = true) (hv : varsReadB P s.vars = true)
    (hres : f.resultTypes = #[tb]) (htb : P.underlying tb = some .bool) (hfn : s.fn H (ds ++ gs) = { results := [.lit (.bool true)], args := ds, vars := gs }) :
    s.post enc P f false true false false W args (.bool true) W' := by
  have hlt := hW.lt
  obtain ⟨p, q, hA, hV, rfl, h4, h5⟩ := hW
  refine ⟨ds, gs, p ++ q, [], p, q, ⟨p, q, hA, hV, rfl, h4, h5⟩, ?_, ?_, ?_, hb.frame _, fun h => by cases h⟩
  · rw [hres, hfn]
    exact trodAll_mk1 (shut_bool htb _)
  · rw [hfn]
    exact below_trodAll hl hb hp hA (fun x hx => hlt x (List.mem_append_left _ hx))
  · rw [hfn]
    exact below_trodVars hl hb hv hV (fun x hx => hlt x (List.mem_append_right _ hx))
theorem trodVars_length : ∀ {ns : List String} {gs : List (DataW H)} {ps : List MemPlace} {sp : Nat → Bool}, DataW.TrodVars enc P W sp ns gs ps → gs.length = ns.length
  | [], [], _, _, _ => rfl
  | [], _ :: _, _, _, h => h.elim
  | _ :: _, [], _, _, h => h.elim
  | _ :: ns, _ :: gs, _, _, h => by
    obtain ⟨_, _, _, _, _, _, _, _, _, _, hrest, _⟩ := h
    simp [trodVars_length hrest]
end
theorem own : ownKnob Tryz.prog.godebug = none := by kernel_rfl
theorem laidOut : laidOutB Tryz.prog = true := by kernel_rfl
end Go.Proofs.YtdkccihoecpcaaaGreatFmt
