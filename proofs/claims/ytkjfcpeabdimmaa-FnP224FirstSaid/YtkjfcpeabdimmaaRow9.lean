/- Row FnP224First: the answer is true. -/
import Derived.Test.YtkjfcpeabdimmaaRowSl3
set_option linter.unusedVariables false
set_option linter.unusedSimpArgs false
set_option linter.constructorNameAsVariable false
set_option maxRecDepth 100000
set_option maxHeartbeats 4000000
namespace Go.Sx
open Go.Proofs Go.FP Go.EC
/-- The first coordinate of a point read of bytes. -/
def firstVC (l : List Int) (A : Prop) (B : List Int → Prop) : Prop :=
  callE 71 12 l fun o => callU 14 1 (el4 o 2) (one1 fun r => byteK r 1 A (callU 17 4 (el4 o 2) fun i => callU 6 4 (el4 o 0 ++ i) fun x => callU 68 28 x B))
def row9a (P : List Int → Prop) (l : List Int) : Prop := rdK 1 l (P [1]) (firstVC l (P [1]) fun _ => P [0])
def row9b (P : List Int → Prop) (l : List Int) : Prop := rdK 57 l (P [1]) (firstVC l (P [0]) fun X => alikeK X (cX l) fun t => P [t])
def row9o (P : List Int → Prop) (l : List Int) : Prop := gtK (nth 0 l 0) (P [1]) (othK (nth 0 l 0) (P [1]))
theorem row9_1 : Can.condT (canSl 90 [some 1]) Try.prog X2 tabR3 relsR3 8 30 = slCond3 90 [some 1] row9a := by kernel_rfl
theorem row9_57 : Can.condT (canSl 90 [some 57]) Try.prog X2 tabR3 relsR3 8 30 = slCond3 90 [some 57] row9b := by kernel_rfl
theorem row9_o : Can.condT (canSl 92 [none]) Try.prog X2 tabR3 relsR3 8 30 = slCond3 92 [none] row9o := by kernel_rfl
theorem first_of {l : List Int} {A : Prop} {B : List Int → Prop} {P : Pt p} (h : EncB l P) (hA : P = none → A) (hB : ∀ x y, P = some (x, y) → ∀ X : List Int, X.length = 28 → rng 256 X → valB X < pI → tF (valB X) = x → B X) : firstVC l A B := by
  refine callE_of ⟨P, h⟩ fun o lo ho => ?_
  obtain ⟨oo, ro⟩ : ok3 o 0 ∧ ∀ P, EncB l P → Rep bF (tri3 o 0) P := ho
  have hR := ro P h
  have hx : Elt (el4 o 0) _ := elt_of (by omega) oo.1
  have hz : Elt (el4 o 2) _ := elt_of (by omega) oo.2.2
  refine isZ_of oo.2.2 (fun k => hA ?_) fun k => callU_inv hz fun i hi => callU_2 6 (fun a b => a * b) rfl hx hi fun a ha => callU_get ha fun X lX rX vX eX => ?_
  · match P, hR with
    | none, _ => rfl
    | some (x, y), hR => exact (hR.1 k).elim
  · match P, hR with
    | none, hR => exact (k hR.2.1).elim
    | some (x, y), hR =>
      refine hB x y rfl X lX rX vX ?_
      rw [eX]
      refine eq_of_mul good k ?_
      rw [inv_mul_eq good k]
      exact hR.2.1
theorem row9_1_ok : CanOk Try.prog relsR3 8 (canSl 90 [some 1]) := can_of_condT hX2 hm2 (tab := tabR3) tabR3_ok 30 (by decide) (by
  rw [row9_1]
  refine slCond3_of fun l hl hp => ?_
  have hl' : l.length = 1 := hl.trans (by decide)
  refine rdK_of (.inl rfl) hl' (fun ⟨P, hP⟩ => first_of hP (fun _ => ok90') fun x y e => ?_) fun _ => ok90'
  subst e
  exact absurd hP.1 (by omega))
theorem row9_57_ok : CanOk Try.prog relsR3 8 (canSl 90 [some 57]) := can_of_condT hX2 hm2 (tab := tabR3) tabR3_ok 30 (by decide) (by
  rw [row9_57]
  refine slCond3_of fun l hl hp => ?_
  have hl' : l.length = 57 := hl.trans (by decide)
  refine rdK_of (.inr rfl) hl' (fun ⟨P, hP⟩ => first_of hP (fun e => ?_) fun x y e X lX rX vX eX => ?_) fun _ => ok90'
  · subst e
    have h1 : l = [0] := hP
    rw [h1] at hl'
    exact absurd hl' (by decide)
  · subst e
    obtain ⟨_, hr, _, vx, _, ex, _⟩ := hP
    have lc : (cX l).length = 28 := by simp [cX, hl']
    exact alikeK_of (by omega) (fun _ => ok90') fun k => (k (bytes_eq rX (rng_take _ (rng_drop _ hr)) (by omega) vX vx (by rw [eX, ex]))).elim)
theorem row9_o_ok : CanOk Try.prog relsR3 8 (canSl 92 [none]) := can_of_condT hX2 hm2 (tab := tabR3) tabR3_ok 30 (by decide) (by
  rw [row9_o]
  exact slCond3_of fun l hl hp => gtK_of ok92' (othK_of hp ok92'))
end Go.Sx
