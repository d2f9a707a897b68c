/- ScalarMult: its conditions, the loop. -/
import Derived.Test.YtkjfcpeabdimmaaBaseSM
set_option linter.unusedVariables false
set_option linter.unusedSimpArgs false
set_option linter.constructorNameAsVariable false
set_option maxRecDepth 100000
set_option maxHeartbeats 4000000
namespace Go.Sx
open Go.Proofs Go.FP Go.EC
theorem sm3_cond : HeadCondT Try.prog X2 tabSM relsSm noL Try.f55 canSM (csU 154 []) (some (csP 155 7, isAt61 7)) head55 2 loop55 tail55 120 = alln 232 fun l => (relsSm 1154).pre l → byteVC (tabOf l) (nth 0 l 12) (accOf l) fun s => smVC (tabOf l) l (toS 1155 l) 6 1 s := by kernel_rfl
end Go.Sx
