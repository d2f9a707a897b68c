/- From calls that answer true and leave old memory as it was to what a row asks. -/
import Derived.Test.YtkjfcpeabdimmaaBaseTri
import Derived.ProofKit
import Derived.Below
import Derived.Carry
import Derived.ChangeSame
import Derived.Test.YtkjfcpeabdimmaaRows
set_option linter.unusedVariables false
set_option linter.unusedSimpArgs false
set_option linter.constructorNameAsVariable false
namespace Go.Sx
open Go Go.ChangeShapes Go.WideShapes Go.RowKit

theorem trodAll_keep {H : Type} {enc : TypeId × Value → H} {P : Program} (hl : laidOutB P = true) {W W' : World} (hb : Below W.heap.size W W') : ∀ {ts : List TypeId} {vs : List Value} {ds : List (DataW H)} {ps : List MemPlace},
    (∀ t ∈ ts, P.readableRec t = true ∧ t < P.types.size) → DataW.TrodAll enc P W 0 (fun _ => true) true ts vs ds ps → (∀ x ∈ ps, x.block < W.heap.size) → DataW.TrodAll enc P W' 0 (fun b => decide (b < W.heap.size)) true ts vs ds ps := by
  intro ts
  induction ts with
  | nil =>
    intro vs ds ps _ h _
    obtain ⟨rfl, rfl, rfl⟩ := trodAll_nil h
    exact rfl
  | cons t ts ih =>
    intro vs ds ps ht h hlt
    obtain ⟨v, vs', d, ds', p, q, rfl, rfl, rfl, h1, h2⟩ := trodAll_cons h
    have h3 := Below.trod hl (ht t (by simp)).1 (ht t (by simp)).2 h1 hb fun x hx => hlt x (List.mem_append_left _ hx)
    exact ⟨p, q, h3, ih (fun t' h' => ht t' (by simp [h'])) h2 fun x hx => hlt x (List.mem_append_right _ hx), rfl⟩

/-- What a law's row asks: true is answered, the arguments read as they did. -/
theorem post_true {H : Type} {enc : TypeId × Value → H} {P : Program} {f : Func} {s : ChangeSpec} {apart : Bool} {W W' : World} {args : Array Value} {ds gs : List (DataW H)} {ps : List MemPlace} {t : TypeId}
    (hl : laidOutB P = true) (ht : ∀ t ∈ f.params.toList, P.readableRec t = true ∧ t < P.types.size) (hr : f.resultTypes = #[t]) (hu : P.underlying t = some .bool) (hvars : s.vars = [])
    (hfn : s.fn H (ds ++ gs) = { results := [.lit (.bool true)], args := ds }) (hW : DataW.Whole enc P f.params.toList s.vars apart W args.toList ds gs ps) (hb : Below W.heap.size W W') :
    s.post enc P f apart true false false W args (.bool true) W' := by
  have hlt : ∀ x ∈ ps, x.block < W.heap.size := fun x hx => hW.lt x hx
  have hW0 := hW
  obtain ⟨p, q, hA, hV, rfl, _, _⟩ := hW0
  rw [hvars] at hV
  obtain ⟨rfl, rfl⟩ := trodVars_none hV
  have hA' := trodAll_keep hl hb ht hA fun x hx => hlt x (by simp [hx])
  refine ⟨ds, [], _, [], p, [], hW, ?_, ?_, ?_, hb.frame _, fun h => Bool.noConfusion h⟩
  · rw [hfn, hr]
    exact trodAll_mk1 (shut_bool hu _)
  · rw [hfn]; exact hA'
  · rw [hvars, hfn]; exact rfl
end Go.Sx

/- Rows over plain bytes (three coordinates; arrays of 28): from the contract over numbered bytes to the call at every argument. -/
namespace Go.Sx
open Go Go.Proofs Go.ChangeShapes Go.WideShapes Go.ChangeAt Go.RowKit

theorem own : ownKnob Try.prog.godebug = none := by kernel_rfl
theorem laid : laidOutB Try.prog = true := by kernel_rfl
def isByte (n : Int) : Prop := 0 ≤ n ∧ n ≤ 255
def Bs (xs : List Int) : Prop := ∀ x ∈ xs, isByte x
def aggB (xs : List Int) : Value := .agg (xs.map (Value.int .u8)).toArray

theorem ints_of {l : List Value} (h : ∀ v ∈ l, ∃ n : Int, v = .int .u8 n ∧ 0 ≤ n ∧ n ≤ 255) : ∃ xs : List Int, l = xs.map (Value.int .u8) ∧ Bs xs := by
  induction l with
  | nil => exact ⟨[], rfl, by simp [Bs]⟩
  | cons v l ih =>
    obtain ⟨n, rfl, hn⟩ := h v (by simp)
    obtain ⟨xs, rfl, hx⟩ := ih fun v hv => h v (by simp [hv])
    exact ⟨n :: xs, rfl, fun x hx' => by
      rcases List.mem_cons.1 hx' with e | e
      · exact e ▸ hn
      · exact hx x e⟩

set_option maxRecDepth 100000 in
theorem open_row {W : World} {base n : Nat} {t : TypeId} {cs : Array Value} (h1 : Try.prog.cellTypes Try.prog.depth t = some (List.replicate n 5)) (h2 : Try.prog.cellsOf t = n) (hs : cs.size = Try.prog.cellsOf t) (h : Row.okWide Try.prog W .any base t cs) :
    ∃ xs : List Int, Value.agg cs = aggB xs ∧ xs.length = n ∧ Bs xs := by
  obtain ⟨ts, hts, _, hc⟩ := h
  rw [h1] at hts
  obtain rfl := Option.some.inj hts
  rw [h2] at hs
  obtain ⟨xs, hx, hr⟩ := ints_of (l := cs.toList) fun v hv => by
    obtain ⟨i, hi⟩ := List.getElem?_of_mem hv
    obtain ⟨u, hu, hk⟩ := hc i v (by simpa using hi)
    have : u = 5 := by
      have := List.mem_of_getElem? hu
      exact List.eq_of_mem_replicate this
    subst this
    unfold Cell.okWide at hk
    rw [Try.underlying5] at hk
    simp only [Cell.ok, Try.underlying5] at hk
    cases v <;> simp_all [IntKind.has, IntKind.min, IntKind.max, IntKind.signed, IntKind.bits]
  refine ⟨xs, ?_, ?_, hr⟩
  · rw [aggB, ← hx]
  · have := congrArg List.length hx
    simp [hs] at this
    exact this.symm

/-- The arguments, their bytes numbered one after the other. -/
def aggs : Nat → List Nat → List AV
  | _, [] => []
  | b, n :: l => .one (.g (vs .u8 b n)) :: aggs (b + n) l
theorem vs_R {ρ : Env} {β : Base} (b : Nat) (xs : List Int) (hx : Bs xs) (h : ∀ i : Nat, i < xs.length → ρ[b + i]? = xs[i]?) : All2 (Sc.R ρ β) (vs .u8 b xs.length) (xs.map (Value.int .u8)) := by
  refine All2.of_get (by simp [vs]) fun i c v hc hv => ?_
  simp only [List.getElem?_map] at hv
  cases hi : xs[i]? with
  | none => rw [hi] at hv; cases hv
  | some n =>
    rw [hi] at hv
    obtain rfl := Option.some.inj hv
    have hlt := lt_of_some hi
    simp only [vs, List.getElem?_map, List.getElem?_range hlt] at hc
    obtain rfl := Option.some.inj hc
    exact ⟨n, by rw [h i hlt, hi], rfl, hx n (List.mem_of_getElem? hi)⟩
theorem aggs_R {β : Base} : ∀ (xss : List (List Int)) (a c : List Int), (∀ xs ∈ xss, Bs xs) → All2 (AV.R (a ++ (xss.flatten ++ c)) β) (aggs a.length (xss.map List.length)) (xss.map aggB)
  | [], a, c, _ => trivial
  | xs :: xss, a, c, h => by
    refine ⟨⟨xs.map (Value.int .u8), rfl, vs_R _ _ (h xs (by simp)) fun i hi => ?_⟩, ?_⟩
    · rw [List.getElem?_append_right (by omega), List.flatten_cons, List.append_assoc, List.getElem?_append_left (by omega)]
      simp
    · have := aggs_R (β := β) xss (a ++ xs) c fun y hy => h y (by simp [hy])
      simpa [List.append_assoc] using this

theorem walkB {rels : Nat → RelSpec} {f : FuncId} {can : Can} {n : Nat} {xss : List (List Int)} (hC : CanOk Try.prog rels f can) (hh : can.hp = []) (hr : can.res = .one (.s (.boolv n))) (hk : can.kinds.length = n)
    (ha : can.args = aggs 0 (xss.map List.length)) (hn : xss.flatten.length = n) (hpost : (rels can.id).post = postRow) (hpre : (rels can.id).pre xss.flatten) (hx : ∀ xs ∈ xss, Bs xs) (W : World) :
    Calls Try.prog f (xss.map aggB).toArray W fun e W' => e = .returned (.bool true) ∧ Below W.heap.size W W' := by
  have hM : Mem (canOld [] can.hp) xss.flatten [] can.hp W W := by
    rw [hh]
    exact ⟨rfl, by simp, by simp, by simp, by simp, Keep.refl _ _, by simp, by simp, by simp, by simp⟩
  have hR : All2 (AV.R xss.flatten []) can.args (xss.map aggB) := by
    rw [ha]
    have := aggs_R (β := []) xss [] [] hx
    simpa using this
  refine (hC W xss.flatten [] (xss.map aggB) hM (by rw [hn, hk]) hR hpre).mono fun e W' he => ?_
  obtain ⟨v, outs, nb, rfl, hP⟩ := he
  have hpo := hP.post
  rw [hpost] at hpo
  match outs, hpo with
  | [r], hr' =>
    have hres := hP.res
    rw [hr] at hres
    obtain ⟨m, hm, hv⟩ := hres
    have : m = r := by
      rw [List.getElem?_append_right (by omega), hn] at hm
      simpa using hm.symm
    subst this
    have hr2 : m ≠ 0 := hr'
    refine ⟨by rw [hv]; simp [hr2], hP.keep.below fun k i _ h => ?_⟩
    obtain ⟨j, g, x, h1, _⟩ := h
    rw [hh] at h1
    simp at h1
end Go.Sx
