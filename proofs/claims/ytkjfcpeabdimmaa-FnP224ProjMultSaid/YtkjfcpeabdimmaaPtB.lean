/- The curve's constant b. -/
import Derived.Test.YtkjfcpeabdimmaaBaseRow
set_option linter.unusedVariables false
set_option linter.unusedSimpArgs false
set_option linter.constructorNameAsVariable false
set_option maxRecDepth 100000
set_option maxHeartbeats 4000000
namespace Go.Sx
open Go.Proofs Go.FP Go.EC
def bBytes : List Int := [0xb4, 0x5, 0xa, 0x85, 0xc, 0x4, 0xb3, 0xab, 0xf5, 0x41, 0x32, 0x56, 0x50, 0x44, 0xb0, 0xb7, 0xd7, 0xbf, 0xd8, 0xba, 0x27, 0xb, 0x39, 0x43, 0x23, 0x55, 0xff, 0xb4]
theorem b_cond : Can.condT canB Try.prog X2 tabImpl relsF 75 9 = ((relsF 16).pre [] → setVC bBytes False (fun e => (relsF 16).post [] e)) := by kernel_rfl
theorem bBytes_ok : rng 256 bBytes := by simp only [bBytes, rng]; decide
theorem b_con : ConOk Try.prog relsF 75 canB.con := con_of_can (can_of_condT hX2 hm2 (tab := tabImpl) tabImpl_ok 9 (by decide) (by
  rw [b_cond]
  intro _
  refine set_of bBytes_ok rfl (fun h => h (by decide)) fun _ e le oe de => ⟨oe, ?_⟩
  rw [de]
  decide +kernel))
def tabB : List (FuncId × Con) := (75, canB.con) :: tabImpl
theorem tabB_ok : ∀ f con, (f, con) ∈ tabB → ConOk Try.prog relsF f con := tab_cons b_con tabImpl_ok
end Go.Sx
