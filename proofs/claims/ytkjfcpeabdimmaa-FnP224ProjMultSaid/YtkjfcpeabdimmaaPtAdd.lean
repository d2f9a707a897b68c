/- P224Point.Add, into a third point and into the first one. -/
import Derived.Test.YtkjfcpeabdimmaaPtB
set_option linter.unusedVariables false
set_option linter.unusedSimpArgs false
set_option linter.constructorNameAsVariable false
set_option maxRecDepth 100000
set_option maxHeartbeats 4000000
namespace Go.Sx
open Go.Proofs Go.FP Go.EC
theorem tabP_ok : ∀ f con, (f, con) ∈ tabB → ConOk Try.prog relsP f con := by
  intro f con hm
  refine (tabB_ok f con hm).lift (relsP_F ?_)
  have h0 : (tabB.all fun x => decide (x.2.id < 63)) = true := by decide
  simpa using List.all_eq_true.1 h0 _ hm
def addEnd (K : List Int → Prop) (s : List (List Int)) : Prop := K (nth c0 s 11 ++ nth c0 s 12 ++ nth c0 s 13)
def addS (l : List Int) : List (List Int) := [el4 l 0, el4 l 1, el4 l 2, el4 l 3, el4 l 4, el4 l 5, c0, c0, c0, c0, c0, c0, c0, c0, c0]
theorem padd_cond : Can.condT canPAdd Try.prog X2 tabB relsP 48 9 = inp 24 0 18446744073709551615 (fun l => rngs 0 18446744073709551615 l ((relsP 63).pre l → fopVC (addEnd fun o => (relsP 63).post l o) addOps (addS l))) := by kernel_rfl
theorem paddI_cond : Can.condT canPAddI Try.prog X2 tabB relsP 48 9 = inp 24 0 18446744073709551615 (fun l => rngs 0 18446744073709551615 l ((relsP 63).pre l → fopVC (addEnd fun o => (relsP 63).post l o) addOps (addS l))) := by kernel_rfl
theorem padd_law {l : List Int} (hl : l.length = 24) (hp : (relsP 63).pre l) : fopVC (addEnd fun o => (relsP 63).post l o) addOps (addS l) := by
  obtain ⟨⟨h0, h1, h2⟩, h3, h4, h5⟩ : ok3 l 0 ∧ ok3 l 3 := hp
  refine fop_of addOps (addS l) [dec64 (el4 l 0), dec64 (el4 l 1), dec64 (el4 l 2), dec64 (el4 l 3), dec64 (el4 l 4), dec64 (el4 l 5), 0, 0, 0, 0, 0, 0, 0, 0, 0]
    ⟨elt_of (by omega) h0, elt_of (by omega) h1, elt_of (by omega) h2, elt_of (by omega) h3, elt_of (by omega) h4, elt_of (by omega) h5, elt0, elt0, elt0, elt0, elt0, elt0, elt0, elt0, elt0, trivial⟩ fun s' hs => ?_
  obtain ⟨k1, k2⟩ := tri_of (hs.nth elt0 11) (hs.nth elt0 12) (hs.nth elt0 13)
  exact ⟨k1, k2.trans (add_alg bF _ _ _ _ _ _)⟩
theorem padd_con : ConOk Try.prog relsP 48 canPAdd.con := con_of_can (can_of_condT hX2 hm2 (tab := tabB) tabP_ok 9 (by decide) (by
  rw [padd_cond]
  exact inp_of _ _ _ _ fun l hl => rngs_of _ _ fun _ hp => padd_law hl hp))
theorem paddI_con : ConOk Try.prog relsP 48 canPAddI.con := con_of_can (can_of_condT hX2 hm2 (tab := tabB) tabP_ok 9 (by decide) (by
  rw [paddI_cond]
  exact inp_of _ _ _ _ fun l hl => rngs_of _ _ fun _ hp => padd_law hl hp))
end Go.Sx
