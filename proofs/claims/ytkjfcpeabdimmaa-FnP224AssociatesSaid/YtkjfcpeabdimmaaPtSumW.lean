/- The laws' sum (p224sum) where one of the points was told by the run itself: by lengths and outcome. -/
import Derived.Test.YtkjfcpeabdimmaaPtAlike
set_option linter.unusedVariables false
set_option linter.unusedSimpArgs false
set_option linter.constructorNameAsVariable false
set_option maxRecDepth 100000
set_option maxHeartbeats 4000000
namespace Go.Sx
open Go.Proofs Go.FP Go.EC
/-- As canSum, the first (or the second) slice in memory that the run made. -/
def canSumW (id m k len : Nat) (f : Bool) : Can := { canSum id m k len with hp := if f then [rw_ (vs .u8 0 m), ro (vs .u8 m k)] else [ro (vs .u8 0 m), rw_ (vs .u8 m k)] }
theorem w_true_1_1_far : Can.condT (canSumW 80 1 1 1 true) Try.prog X2 tabE relsS 41 20 = inp 2 0 255 (fun l => rngs 0 255 l ((relsS 80).pre l → sumE 1 (fun o => (relsS 80).post l o) (fun _ => False) l)) := by kernel_rfl
theorem w_true_1_1_far_con : ConOk Try.prog relsS 41 (canSumW 80 1 1 1 true).con := con_of_can (can_of_condT hX2 hm2 (tab := tabE) tabES_ok 20 (by decide) (by rw [w_true_1_1_far]; exact inp_of _ _ _ _ fun l hl => rngs_of _ _ fun _ hp => far_law hp))
theorem w_true_1_1_fin : Can.condT (canSumW 81 1 1 57 true) Try.prog X2 tabE relsS 41 20 = inp 2 0 255 (fun l => rngs 0 255 l ((relsS 81).pre l → sumE 1 (fun _ => False) (fun o => (relsS 81).post l o) l)) := by kernel_rfl
theorem w_true_1_1_fin_con : ConOk Try.prog relsS 41 (canSumW 81 1 1 57 true).con := con_of_can (can_of_condT hX2 hm2 (tab := tabE) tabES_ok 20 (by decide) (by rw [w_true_1_1_fin]; exact inp_of _ _ _ _ fun l hl => rngs_of _ _ fun _ hp => fin_law hp))
theorem w_true_1_57_far : Can.condT (canSumW 80 1 57 1 true) Try.prog X2 tabE relsS 41 20 = inp 58 0 255 (fun l => rngs 0 255 l ((relsS 80).pre l → sumE 1 (fun o => (relsS 80).post l o) (fun _ => False) l)) := by kernel_rfl
theorem w_true_1_57_far_con : ConOk Try.prog relsS 41 (canSumW 80 1 57 1 true).con := con_of_can (can_of_condT hX2 hm2 (tab := tabE) tabES_ok 20 (by decide) (by rw [w_true_1_57_far]; exact inp_of _ _ _ _ fun l hl => rngs_of _ _ fun _ hp => far_law hp))
theorem w_true_1_57_fin : Can.condT (canSumW 81 1 57 57 true) Try.prog X2 tabE relsS 41 20 = inp 58 0 255 (fun l => rngs 0 255 l ((relsS 81).pre l → sumE 1 (fun _ => False) (fun o => (relsS 81).post l o) l)) := by kernel_rfl
theorem w_true_1_57_fin_con : ConOk Try.prog relsS 41 (canSumW 81 1 57 57 true).con := con_of_can (can_of_condT hX2 hm2 (tab := tabE) tabES_ok 20 (by decide) (by rw [w_true_1_57_fin]; exact inp_of _ _ _ _ fun l hl => rngs_of _ _ fun _ hp => fin_law hp))
theorem w_true_57_1_far : Can.condT (canSumW 82 57 1 1 true) Try.prog X2 tabE relsS 41 20 = inp 58 0 255 (fun l => rngs 0 255 l ((relsS 82).pre l → sumE 57 (fun o => (relsS 82).post l o) (fun _ => False) l)) := by kernel_rfl
theorem w_true_57_1_far_con : ConOk Try.prog relsS 41 (canSumW 82 57 1 1 true).con := con_of_can (can_of_condT hX2 hm2 (tab := tabE) tabES_ok 20 (by decide) (by rw [w_true_57_1_far]; exact inp_of _ _ _ _ fun l hl => rngs_of _ _ fun _ hp => far_law hp))
theorem w_true_57_1_fin : Can.condT (canSumW 83 57 1 57 true) Try.prog X2 tabE relsS 41 20 = inp 58 0 255 (fun l => rngs 0 255 l ((relsS 83).pre l → sumE 57 (fun _ => False) (fun o => (relsS 83).post l o) l)) := by kernel_rfl
theorem w_true_57_1_fin_con : ConOk Try.prog relsS 41 (canSumW 83 57 1 57 true).con := con_of_can (can_of_condT hX2 hm2 (tab := tabE) tabES_ok 20 (by decide) (by rw [w_true_57_1_fin]; exact inp_of _ _ _ _ fun l hl => rngs_of _ _ fun _ hp => fin_law hp))
theorem w_true_57_57_far : Can.condT (canSumW 82 57 57 1 true) Try.prog X2 tabE relsS 41 20 = inp 114 0 255 (fun l => rngs 0 255 l ((relsS 82).pre l → sumE 57 (fun o => (relsS 82).post l o) (fun _ => False) l)) := by kernel_rfl
theorem w_true_57_57_far_con : ConOk Try.prog relsS 41 (canSumW 82 57 57 1 true).con := con_of_can (can_of_condT hX2 hm2 (tab := tabE) tabES_ok 20 (by decide) (by rw [w_true_57_57_far]; exact inp_of _ _ _ _ fun l hl => rngs_of _ _ fun _ hp => far_law hp))
theorem w_true_57_57_fin : Can.condT (canSumW 83 57 57 57 true) Try.prog X2 tabE relsS 41 20 = inp 114 0 255 (fun l => rngs 0 255 l ((relsS 83).pre l → sumE 57 (fun _ => False) (fun o => (relsS 83).post l o) l)) := by kernel_rfl
theorem w_true_57_57_fin_con : ConOk Try.prog relsS 41 (canSumW 83 57 57 57 true).con := con_of_can (can_of_condT hX2 hm2 (tab := tabE) tabES_ok 20 (by decide) (by rw [w_true_57_57_fin]; exact inp_of _ _ _ _ fun l hl => rngs_of _ _ fun _ hp => fin_law hp))
theorem w_false_1_1_far : Can.condT (canSumW 80 1 1 1 false) Try.prog X2 tabE relsS 41 20 = inp 2 0 255 (fun l => rngs 0 255 l ((relsS 80).pre l → sumE 1 (fun o => (relsS 80).post l o) (fun _ => False) l)) := by kernel_rfl
theorem w_false_1_1_far_con : ConOk Try.prog relsS 41 (canSumW 80 1 1 1 false).con := con_of_can (can_of_condT hX2 hm2 (tab := tabE) tabES_ok 20 (by decide) (by rw [w_false_1_1_far]; exact inp_of _ _ _ _ fun l hl => rngs_of _ _ fun _ hp => far_law hp))
theorem w_false_1_1_fin : Can.condT (canSumW 81 1 1 57 false) Try.prog X2 tabE relsS 41 20 = inp 2 0 255 (fun l => rngs 0 255 l ((relsS 81).pre l → sumE 1 (fun _ => False) (fun o => (relsS 81).post l o) l)) := by kernel_rfl
theorem w_false_1_1_fin_con : ConOk Try.prog relsS 41 (canSumW 81 1 1 57 false).con := con_of_can (can_of_condT hX2 hm2 (tab := tabE) tabES_ok 20 (by decide) (by rw [w_false_1_1_fin]; exact inp_of _ _ _ _ fun l hl => rngs_of _ _ fun _ hp => fin_law hp))
theorem w_false_1_57_far : Can.condT (canSumW 80 1 57 1 false) Try.prog X2 tabE relsS 41 20 = inp 58 0 255 (fun l => rngs 0 255 l ((relsS 80).pre l → sumE 1 (fun o => (relsS 80).post l o) (fun _ => False) l)) := by kernel_rfl
theorem w_false_1_57_far_con : ConOk Try.prog relsS 41 (canSumW 80 1 57 1 false).con := con_of_can (can_of_condT hX2 hm2 (tab := tabE) tabES_ok 20 (by decide) (by rw [w_false_1_57_far]; exact inp_of _ _ _ _ fun l hl => rngs_of _ _ fun _ hp => far_law hp))
theorem w_false_1_57_fin : Can.condT (canSumW 81 1 57 57 false) Try.prog X2 tabE relsS 41 20 = inp 58 0 255 (fun l => rngs 0 255 l ((relsS 81).pre l → sumE 1 (fun _ => False) (fun o => (relsS 81).post l o) l)) := by kernel_rfl
theorem w_false_1_57_fin_con : ConOk Try.prog relsS 41 (canSumW 81 1 57 57 false).con := con_of_can (can_of_condT hX2 hm2 (tab := tabE) tabES_ok 20 (by decide) (by rw [w_false_1_57_fin]; exact inp_of _ _ _ _ fun l hl => rngs_of _ _ fun _ hp => fin_law hp))
theorem w_false_57_1_far : Can.condT (canSumW 82 57 1 1 false) Try.prog X2 tabE relsS 41 20 = inp 58 0 255 (fun l => rngs 0 255 l ((relsS 82).pre l → sumE 57 (fun o => (relsS 82).post l o) (fun _ => False) l)) := by kernel_rfl
theorem w_false_57_1_far_con : ConOk Try.prog relsS 41 (canSumW 82 57 1 1 false).con := con_of_can (can_of_condT hX2 hm2 (tab := tabE) tabES_ok 20 (by decide) (by rw [w_false_57_1_far]; exact inp_of _ _ _ _ fun l hl => rngs_of _ _ fun _ hp => far_law hp))
theorem w_false_57_1_fin : Can.condT (canSumW 83 57 1 57 false) Try.prog X2 tabE relsS 41 20 = inp 58 0 255 (fun l => rngs 0 255 l ((relsS 83).pre l → sumE 57 (fun _ => False) (fun o => (relsS 83).post l o) l)) := by kernel_rfl
theorem w_false_57_1_fin_con : ConOk Try.prog relsS 41 (canSumW 83 57 1 57 false).con := con_of_can (can_of_condT hX2 hm2 (tab := tabE) tabES_ok 20 (by decide) (by rw [w_false_57_1_fin]; exact inp_of _ _ _ _ fun l hl => rngs_of _ _ fun _ hp => fin_law hp))
theorem w_false_57_57_far : Can.condT (canSumW 82 57 57 1 false) Try.prog X2 tabE relsS 41 20 = inp 114 0 255 (fun l => rngs 0 255 l ((relsS 82).pre l → sumE 57 (fun o => (relsS 82).post l o) (fun _ => False) l)) := by kernel_rfl
theorem w_false_57_57_far_con : ConOk Try.prog relsS 41 (canSumW 82 57 57 1 false).con := con_of_can (can_of_condT hX2 hm2 (tab := tabE) tabES_ok 20 (by decide) (by rw [w_false_57_57_far]; exact inp_of _ _ _ _ fun l hl => rngs_of _ _ fun _ hp => far_law hp))
theorem w_false_57_57_fin : Can.condT (canSumW 83 57 57 57 false) Try.prog X2 tabE relsS 41 20 = inp 114 0 255 (fun l => rngs 0 255 l ((relsS 83).pre l → sumE 57 (fun _ => False) (fun o => (relsS 83).post l o) l)) := by kernel_rfl
theorem w_false_57_57_fin_con : ConOk Try.prog relsS 41 (canSumW 83 57 57 57 false).con := con_of_can (can_of_condT hX2 hm2 (tab := tabE) tabES_ok 20 (by decide) (by rw [w_false_57_57_fin]; exact inp_of _ _ _ _ fun l hl => rngs_of _ _ fun _ hp => fin_law hp))
end Go.Sx
