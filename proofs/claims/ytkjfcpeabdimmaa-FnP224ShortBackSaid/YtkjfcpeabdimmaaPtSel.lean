/- Element.Select into its second source. -/
import Derived.Test.YtkjfcpeabdimmaaPtWrite
set_option linter.unusedVariables false
set_option linter.unusedSimpArgs false
set_option linter.constructorNameAsVariable false
set_option maxRecDepth 100000
set_option maxHeartbeats 4000000
namespace Go.Sx
open Go.Proofs Go.FP Go.EC
/-- 123: the choice by a number 0 or 1 (0: what was there). -/
def relSelI : RelSpec := { pre := fun i => 0 ≤ nth 0 i 0 ∧ nth 0 i 0 ≤ 1, post := fun i o => (nth 0 i 0 = 0 → o = (i.drop 1).take 4) ∧ (nth 0 i 0 = 1 → o = i.drop 5) }
def relsL (n : Nat) : RelSpec := if n = 123 then relSelI else relsWr n
theorem tabL_W {t : List (FuncId × Con)} (h0 : (t.all fun x => x.2.id != 123) = true) (h : ∀ f con, (f, con) ∈ t → ConOk Try.prog relsWr f con) : ∀ f con, (f, con) ∈ t → ConOk Try.prog relsL f con := by
  intro f con hm
  have := List.all_eq_true.1 h0 _ hm
  simp only [bne_iff_ne, ne_eq] at this
  exact (h f con hm).lift (by simp [relsL, this])
def canSelI : Can := { id := 123, kinds := .i64 :: ks .u64 8, args := [pt 0, pt 1, pt 0, v1 .i64 0], hp := [rw_ (vs .u64 1 4), ro (vs .u64 5 4)], outs := ks .u64 4, res := pt 0, hpE := [vs .u64 9 4, vs .u64 5 4], new := [] }
def tabM : List (FuncId × Con) := [(111, canCmov.con)]
theorem tabM_ok : ∀ f con, (f, con) ∈ tabM → ConOk Try.prog relsL f con := tabCons (cmov_ok.lift rfl) (fun f con h => by cases h)
def selVC (K : List Int → Prop) (l : List Int) : Prop := convR .u64 (nth 0 l 0) fun d =>
  callK 12 1 [d, nth 0 l 1, nth 0 l 5] (one1 fun a => callK 12 1 [d, nth 0 l 2, nth 0 l 6] (one1 fun b => callK 12 1 [d, nth 0 l 3, nth 0 l 7] (one1 fun c => callK 12 1 [d, nth 0 l 4, nth 0 l 8] (one1 fun e => K [a, b, c, e]))))
theorem selI_cond : Can.condT canSelI Try.prog X2 tabM relsL 85 9 = alln 9 fun l => fitsC (.i64 :: ks .u64 8) l ((relsL 123).pre l → selVC (fun o => (relsL 123).post l o) l) := by kernel_rfl
theorem cmovK {c x y : Int} {K : Int → Prop} (h : c = 0 ∨ c = 1) (h0 : c = 0 → K x) (h1 : c = 1 → K y) : callK 12 1 [c, x, y] (one1 K) := by
  refine callK_of (show 0 ≤ c ∧ c ≤ 1 by omega) fun o lo ho => ?_
  match o, lo with
  | [r], _ =>
    obtain ⟨a, b⟩ : (c = 0 → r = x) ∧ (c = 1 → r = y) := ho
    rcases h with h | h
    · rw [show r = x from a h]; exact h0 h
    · rw [show r = y from b h]; exact h1 h
theorem selI_con : ConOk Try.prog relsL 85 canSelI.con := con_of_can (can_of_condT hX2 hm2 (tab := tabM) tabM_ok 9 (by decide) (by
  rw [selI_cond]
  refine alln_len _ fun l hl => fitsC_intro _ _ fun hp => ?_
  obtain ⟨h0, h1⟩ : 0 ≤ nth 0 l 0 ∧ nth 0 l 0 ≤ 1 := hp
  match l, hl with
  | [c, x0, x1, x2, x3, y0, y1, y2, y3], _ =>
    have hc : c = 0 ∨ c = 1 := by
      simp only [nth] at h0 h1
      omega
    have hw : IntKind.u64.wrap c = c := wrap_of_fits (k := .u64) (by simp only [Fits, kmin, kmax]; omega)
    refine convR_of ?_
    simp only [nth, hw]
    have e0 : c = 0 → (relsL 123).post [c, x0, x1, x2, x3, y0, y1, y2, y3] [x0, x1, x2, x3] := fun h => ⟨fun _ => rfl, fun k => by simp only [nth] at k; omega⟩
    have e1 : c = 1 → (relsL 123).post [c, x0, x1, x2, x3, y0, y1, y2, y3] [y0, y1, y2, y3] := fun h => ⟨fun k => by simp only [nth] at k; omega, fun _ => rfl⟩
    refine cmovK hc (fun h => ?_) fun h => ?_
    · exact cmovK hc (fun _ => cmovK hc (fun _ => cmovK hc (fun _ => e0 h) fun k => by omega) fun k => by omega) fun k => by omega
    · exact cmovK hc (fun k => by omega) fun _ => cmovK hc (fun k => by omega) fun _ => cmovK hc (fun k => by omega) fun _ => e1 h))
def callL (id n : Nat) (i : List Int) (K : List Int → Prop) : Prop := (relsL id).pre i ∧ alln n fun o => (relsL id).post i o → K o
theorem callL_of {id n : Nat} {i : List Int} {K : List Int → Prop} (hp : (relsL id).pre i) (h : ∀ o : List Int, o.length = n → (relsL id).post i o → K o) : callL id n i K := ⟨hp, alln_len n h⟩
/-- The choice between two elements: 0, what was there. -/
theorem sel_of {c : Int} {a b : List Int} {x y : F} {K : List Int → Prop} (hc : c = 0 ∨ c = 1) (ha : Elt a x) (hb : Elt b y) (h0 : c = 0 → ∀ o, Elt o x → K o) (h1 : c = 1 → ∀ o, Elt o y → K o) : callL 123 4 (c :: (a ++ b)) K := by
  refine callL_of (show 0 ≤ c ∧ c ≤ 1 by omega) fun o lo ho => ?_
  obtain ⟨e0, e1⟩ : (c = 0 → o = ((c :: (a ++ b)).drop 1).take 4) ∧ (c = 1 → o = (c :: (a ++ b)).drop 5) := ho
  rcases hc with h | h
  · have := e0 h
    rw [List.drop_succ_cons, List.drop_zero, take_app ha.len] at this
    rw [this]
    exact h0 h a ha
  · have := e1 h
    rw [List.drop_succ_cons, drop_app ha.len] at this
    rw [this]
    exact h1 h b hb
end Go.Sx
