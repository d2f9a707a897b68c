/- ScalarMult: its conditions, the loop's last part. -/
import Derived.Test.YtkjfcpeabdimmaaBaseSM
set_option linter.unusedVariables false
set_option linter.unusedSimpArgs false
set_option linter.constructorNameAsVariable false
set_option maxRecDepth 100000
set_option maxHeartbeats 4000000
namespace Go.Sx
open Go.Proofs Go.FP Go.EC
theorem sm6_cond : LoopCondT Try.prog X2 tabSM relsSm noL Try.f55 canSM (csP 157 21) none 2 loop55 tail55 120 = alln 232 fun l => (relsSm 1157).pre l → smVC (tabOf l) l (fun s => (relsSm 152).post (l.take 40) s) 7 21 (accOf l) := by kernel_rfl
end Go.Sx
