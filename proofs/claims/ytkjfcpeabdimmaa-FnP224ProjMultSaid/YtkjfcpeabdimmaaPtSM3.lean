/- ScalarMult: its conditions, the loop's part 3. -/
import Derived.Test.YtkjfcpeabdimmaaBaseSM
set_option linter.unusedVariables false
set_option linter.unusedSimpArgs false
set_option linter.constructorNameAsVariable false
set_option maxRecDepth 100000
set_option maxHeartbeats 4000000
namespace Go.Sx
open Go.Proofs Go.FP Go.EC
theorem sm5_cond : LoopCondT Try.prog X2 tabSM relsSm noL Try.f55 canSM (csP 156 14) (some (csP 157 21, isAt61 21)) 2 loop55 tail55 120 = alln 232 fun l => (relsSm 1156).pre l → smVC (tabOf l) l (toS 1157 l) 7 14 (accOf l) := by kernel_rfl
end Go.Sx
