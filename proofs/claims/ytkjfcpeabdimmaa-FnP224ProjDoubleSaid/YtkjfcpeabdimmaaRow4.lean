/- Row FnP224ProjDouble: the answer is true. -/
import Derived.Test.YtkjfcpeabdimmaaRowSum
set_option linter.unusedVariables false
set_option linter.unusedSimpArgs false
set_option linter.constructorNameAsVariable false
set_option maxRecDepth 100000
set_option maxHeartbeats 4000000
namespace Go.Sx
open Go.Proofs Go.FP Go.EC
def twiceVC (l : List Int) (bad : Prop) (K : List Int → Prop) : Prop := proj3 l bad fun e => callT3 64 12 e fun o => tell3 o K
def row4VC (P : List Int → Prop) (l : List Int) : Prop :=
  affK l (P [1]) (fun r => notK r (P [1]) (twiceVC l (P [0]) (isFarVC P)))
    (fun X Y r => notK r (P [1]) (twiceVC l (P [0]) fun g => sumVC X Y X Y (isFarVC P g) (isFinVC P g)))
theorem row4_cond : Can.condT canRow1T Try.prog X2 tabT3 relsT 6 30 = inp 84 0 255 (fun l => rngs 0 255 l ((relsT 90).pre l → row4VC (fun o => (relsT 90).post l o) l)) := by kernel_rfl
theorem twice_of {l : List Int} {bad : Prop} {K : List Int → Prop} {S : Pt p} (hr : rng 256 l) (hl : l.length = 84) (h : RepB l S) (hK : ∀ g : List Int, RepB g (asum iv S S) → K g) : twiceVC l bad K := by
  refine proj3_of hr hl h.1 fun e le oe te => callT3_of ⟨oe, ?_⟩ fun o lo ho => ?_
  · show onT bF (tri3 e 0)
    rw [te]
    exact Rep.onT h.2
  · obtain ⟨oo, to⟩ : ok3 o 0 ∧ tri3 o 0 = cadd bF (tri3 e 0) (tri3 e 0) := ho
    refine tell3_of oo fun g lg rg ig tg => hK g ⟨ig, ?_⟩
    rw [tg, to, te]
    exact rep_add good h.2 h.2
theorem row4_ok : CanOk Try.prog relsT 6 canRow1T := can_of_condT hX2 hm2 (tab := tabT3) tabT3_ok 30 (by decide) (by
  rw [row4_cond]
  refine inp_of _ _ _ _ fun l hl => rngs_of _ _ fun hb hp => ?_
  have hr := rng_of_mem (b := 256) l hb
  have t1 : (fun o => (relsT 90).post l o) [1] := (by decide : (1 : Int) ≠ 0)
  refine affK_of (fun h => ⟨t1, notK_0 t1, fun X Y x y _ _ => notK_0 t1⟩) (fun h => notK_1 (twice_of hr hl h fun g hg => isFar_of hg t1)) (fun x y X Y h wX wY => notK_1 (twice_of hr hl h fun g hg => ?_))
  exact sum_of wX wY wX wY (fun e => isPt_far hg e t1) fun X' Y' x' y' e kX kY => isPt_fin hg e kX kY t1)
end Go.Sx
