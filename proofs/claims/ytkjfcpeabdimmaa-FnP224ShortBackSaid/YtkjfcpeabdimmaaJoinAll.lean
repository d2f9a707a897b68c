/- From calls that answer true and leave old memory as it was to what a row asks. -/
import Derived.ProofKit
import Derived.Below
import Derived.Carry
import Derived.ChangeSame
set_option linter.unusedVariables false
set_option linter.unusedSimpArgs false
set_option linter.constructorNameAsVariable false
namespace Go.Sx
open Go Go.ChangeShapes Go.WideShapes Go.RowKit

theorem trodAll_keep {H : Type} {enc : TypeId × Value → H} {P : Program} (hl : laidOutB P = true) {W W' : World} (hb : Below W.heap.size W W') : ∀ {ts : List TypeId} {vs : List Value} {ds : List (DataW H)} {ps : List MemPlace},
    (∀ t ∈ ts, P.readableRec t = true ∧ t < P.types.size) → DataW.TrodAll enc P W 0 (fun _ => true) true ts vs ds ps → (∀ x ∈ ps, x.block < W.heap.size) → DataW.TrodAll enc P W' 0 (fun b => decide (b < W.heap.size)) true ts vs ds ps := by
  intro ts
  induction ts with
  | nil =>
    intro vs ds ps _ h _
    obtain ⟨rfl, rfl, rfl⟩ := trodAll_nil h
    exact rfl
  | cons t ts ih =>
    intro vs ds ps ht h hlt
    obtain ⟨v, vs', d, ds', p, q, rfl, rfl, rfl, h1, h2⟩ := trodAll_cons h
    have h3 := Below.trod hl (ht t (by simp)).1 (ht t (by simp)).2 h1 hb fun x hx => hlt x (List.mem_append_left _ hx)
    exact ⟨p, q, h3, ih (fun t' h' => ht t' (by simp [h'])) h2 fun x hx => hlt x (List.mem_append_right _ hx), rfl⟩

/-- What a law's row asks: true is answered, the arguments read as they did. -/
theorem post_true {H : Type} {enc : TypeId × Value → H} {P : Program} {f : Func} {s : ChangeSpec} {apart : Bool} {W W' : World} {args : Array Value} {ds gs : List (DataW H)} {ps : List MemPlace} {t : TypeId}
    (hl : laidOutB P = true) (ht : ∀ t ∈ f.params.toList, P.readableRec t = true ∧ t < P.types.size) (hr : f.resultTypes = #[t]) (hu : P.underlying t = some .bool) (hvars : s.vars = [])
    (hfn : s.fn H (ds ++ gs) = { results := [.lit (.bool true)], args := ds }) (hW : DataW.Whole enc P f.params.toList s.vars apart W args.toList ds gs ps) (hb : Below W.heap.size W W') :
    s.post enc P f apart true false false W args (.bool true) W' := by
  have hlt : ∀ x ∈ ps, x.block < W.heap.size := fun x hx => hW.lt x hx
  have hW0 := hW
  obtain ⟨p, q, hA, hV, rfl, _, _⟩ := hW0
  rw [hvars] at hV
  obtain ⟨rfl, rfl⟩ := trodVars_none hV
  have hA' := trodAll_keep hl hb ht hA fun x hx => hlt x (by simp [hx])
  refine ⟨ds, [], _, [], p, [], hW, ?_, ?_, ?_, hb.frame _, fun h => Bool.noConfusion h⟩
  · rw [hfn, hr]
    exact trodAll_mk1 (shut_bool hu _)
  · rw [hfn]; exact hA'
  · rw [hvars, hfn]; exact rfl
end Go.Sx
