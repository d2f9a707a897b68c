/- P224Point.Double, into another point and into itself. -/
import Derived.Test.YtkjfcpeabdimmaaPtAdd
set_option linter.unusedVariables false
set_option linter.unusedSimpArgs false
set_option linter.constructorNameAsVariable false
set_option maxRecDepth 100000
set_option maxHeartbeats 4000000
namespace Go.Sx
open Go.Proofs Go.FP Go.EC
def dblEnd (K : List Int → Prop) (s : List (List Int)) : Prop := K (nth c0 s 9 ++ nth c0 s 8 ++ nth c0 s 7)
def dblS (l : List Int) : List (List Int) := [el4 l 0, el4 l 1, el4 l 2, c0, c0, c0, c0, c0, c0, c0, c0]
theorem pdbl_cond : Can.condT canPDbl Try.prog X2 tabB relsP 54 9 = inp 12 0 18446744073709551615 (fun l => rngs 0 18446744073709551615 l ((relsP 64).pre l → fopVC (dblEnd fun o => (relsP 64).post l o) dblOps (dblS l))) := by kernel_rfl
theorem pdblI_cond : Can.condT canPDblI Try.prog X2 tabB relsP 54 9 = inp 12 0 18446744073709551615 (fun l => rngs 0 18446744073709551615 l ((relsP 64).pre l → fopVC (dblEnd fun o => (relsP 64).post l o) dblOps (dblS l))) := by kernel_rfl
theorem pdbl_law {l : List Int} (hl : l.length = 12) (hp : (relsP 64).pre l) : fopVC (dblEnd fun o => (relsP 64).post l o) dblOps (dblS l) := by
  obtain ⟨⟨h0, h1, h2⟩, hon⟩ : ok3 l 0 ∧ onT bF (tri3 l 0) := hp
  refine fop_of dblOps (dblS l) [dec64 (el4 l 0), dec64 (el4 l 1), dec64 (el4 l 2), 0, 0, 0, 0, 0, 0, 0, 0]
    ⟨elt_of (by omega) h0, elt_of (by omega) h1, elt_of (by omega) h2, elt0, elt0, elt0, elt0, elt0, elt0, elt0, elt0, trivial⟩ fun s' hs => ?_
  obtain ⟨k1, k2⟩ := tri_of (hs.nth elt0 9) (hs.nth elt0 8) (hs.nth elt0 7)
  exact ⟨k1, k2.trans (dbl_alg bF _ _ _ hon)⟩
theorem pdbl_con : ConOk Try.prog relsP 54 canPDbl.con := con_of_can (can_of_condT hX2 hm2 (tab := tabB) tabP_ok 9 (by decide) (by
  rw [pdbl_cond]
  exact inp_of _ _ _ _ fun l hl => rngs_of _ _ fun _ hp => pdbl_law hl hp))
theorem pdblI_con : ConOk Try.prog relsP 54 canPDblI.con := con_of_can (can_of_condT hX2 hm2 (tab := tabB) tabP_ok 9 (by decide) (by
  rw [pdblI_cond]
  exact inp_of _ _ _ _ fun l hl => rngs_of _ _ fun _ hp => pdbl_law hl hp))
end Go.Sx
