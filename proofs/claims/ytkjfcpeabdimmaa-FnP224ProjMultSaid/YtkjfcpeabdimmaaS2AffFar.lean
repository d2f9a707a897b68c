/- p224affine of the point infinitely far, and of what is none. -/
import Derived.Test.YtkjfcpeabdimmaaS2AffLaw
set_option linter.unusedVariables false
set_option linter.unusedSimpArgs false
set_option linter.constructorNameAsVariable false
set_option maxRecDepth 100000
set_option maxHeartbeats 4000000
namespace Go.Sx
open Go.Proofs Go.FP Go.EC
theorem far_cond : Can.condT canFar Try.prog X2 tabAll relsA 14 20 = inp 84 0 255 (fun l => rngs 0 255 l ((relsA 61).pre l → affVC False (fun r => (relsA 61).post l [r]) ((relsA 61).post l [0]) (fun _ _ _ => False) l)) := by kernel_rfl
theorem bad_cond : Can.condT canBad Try.prog X2 tabAll relsA 14 20 = inp 84 0 255 (fun l => rngs 0 255 l ((relsA 62).pre l → affVC ((relsA 62).post l []) (fun _ => False) False (fun _ _ _ => False) l)) := by kernel_rfl
theorem far_con : ConOk Try.prog relsA 14 canFar.con := con_of_can (can_of_condT hX2 hm2 (tab := tabAll) tabAllA 20 (by decide) (by
  rw [far_cond]
  refine inp_of _ _ _ _ fun l hl => rngs_of _ _ fun _ hp => ?_
  have hp' : inP l ∧ hZ l = 0 := hp
  refine aff_of (fun h => h hp'.1) (fun _ _ hx r h0 h1 => ?_) (fun _ _ hx => ?_) fun _ h _ _ _ _ _ _ _ _ _ _ _ => h hp'.2
  · show isB [r] (hX l = 0 ∧ hY l ≠ 0)
    exact ⟨fun k => h1 k.2, fun k => h0 (Classical.not_not.1 fun q => k ⟨hx, q⟩)⟩
  · show isB [0] (hX l = 0 ∧ hY l ≠ 0)
    exact ⟨fun k => (hx k.1).elim, fun _ => rfl⟩))
theorem bad_con : ConOk Try.prog relsA 14 canBad.con := con_of_can (can_of_condT hX2 hm2 (tab := tabAll) tabAllA 20 (by decide) (by
  rw [bad_cond]
  refine inp_of _ _ _ _ fun l hl => rngs_of _ _ fun _ hp => ?_
  have hp' : ¬ inP l := hp
  exact aff_of (fun _ => trivial) (fun h => (hp' h).elim) (fun h => (hp' h).elim) fun h => (hp' h).elim))
end Go.Sx
