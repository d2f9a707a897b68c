/- Row FnP224Associates at slices of 1, 57 and 57 bytes: the answer is true. -/
import Derived.Test.YtkjfcpeabdimmaaRow13
set_option linter.unusedVariables false
set_option linter.unusedSimpArgs false
set_option linter.constructorNameAsVariable false
set_option maxRecDepth 100000
set_option maxHeartbeats 4000000
namespace Go.Sx
open Go.Proofs Go.FP Go.EC
def t_row13_1_57_57_far : List (FuncId × Con) := [(41, (canSumW 82 57 57 1 true).con), (41, (canSumW 80 1 57 1 true).con), (41, (canSumW 80 1 57 1 false).con), (41, (canSumW 80 1 1 1 false).con), (32, canRdOk.con)] ++ tabR4
theorem t_row13_1_57_57_far_ok : ∀ f con, (f, con) ∈ t_row13_1_57_57_far → ConOk Try.prog (relsR5 1 57) f con := tabApp (tabCons (w_true_57_57_far_con.lift rfl) (tabCons (w_true_1_57_far_con.lift rfl) (tabCons (w_false_1_57_far_con.lift rfl) (tabCons (w_false_1_1_far_con.lift rfl) (tabCons (rdOk_con.lift rfl) (fun f con h => by cases h)))))) (tabR5_ok 1 57)
theorem row13_1_57_57_far : Can.condT (canSl 103 [some 1, some 57, some 57]) Try.prog X2 t_row13_1_57_57_far (relsR5 1 57) 12 30 = slCond5 1 57 103 [some 1, some 57, some 57] (row13VC 1 57 57 80 82 1) := by kernel_rfl
theorem row13_1_57_57_far_ok : CanOk Try.prog (relsR5 1 57) 12 (canSl 103 [some 1, some 57, some 57]) := can_of_condT hX2 hm2 (tab := t_row13_1_57_57_far) t_row13_1_57_57_far_ok 30 (by decide) (by rw [row13_1_57_57_far]; exact slCond5_of fun l hl hp => row13_law (.inl rfl) (.inr rfl) (.inr rfl) (.inl rfl) (hl.trans (by decide)) okRow5 (far5 hp) e_far)
def t_row13_1_57_57_fin : List (FuncId × Con) := [(41, (canSumW 83 57 57 57 true).con), (41, (canSumW 81 1 57 57 true).con), (41, (canSumW 81 1 57 57 false).con), (41, (canSumW 81 1 1 57 false).con), (32, canRdOk.con)] ++ tabR4
theorem t_row13_1_57_57_fin_ok : ∀ f con, (f, con) ∈ t_row13_1_57_57_fin → ConOk Try.prog (relsR5 1 57) f con := tabApp (tabCons (w_true_57_57_fin_con.lift rfl) (tabCons (w_true_1_57_fin_con.lift rfl) (tabCons (w_false_1_57_fin_con.lift rfl) (tabCons (w_false_1_1_fin_con.lift rfl) (tabCons (rdOk_con.lift rfl) (fun f con h => by cases h)))))) (tabR5_ok 1 57)
theorem row13_1_57_57_fin : Can.condT (canSl 104 [some 1, some 57, some 57]) Try.prog X2 t_row13_1_57_57_fin (relsR5 1 57) 12 30 = slCond5 1 57 104 [some 1, some 57, some 57] (row13VC 1 57 57 81 83 57) := by kernel_rfl
theorem row13_1_57_57_fin_ok : CanOk Try.prog (relsR5 1 57) 12 (canSl 104 [some 1, some 57, some 57]) := can_of_condT hX2 hm2 (tab := t_row13_1_57_57_fin) t_row13_1_57_57_fin_ok 30 (by decide) (by rw [row13_1_57_57_fin]; exact slCond5_of fun l hl hp => row13_law (.inl rfl) (.inr rfl) (.inr rfl) (.inr rfl) (hl.trans (by decide)) okRow6 (fin5 hp) e_fin)
def t_row13_1_57_57_not : List (FuncId × Con) := (41, conNever3) :: tabR4
theorem row13_1_57_57_not : Can.condT (canSl 105 [some 1, some 57, some 57]) Try.prog X2 t_row13_1_57_57_not (relsR5 1 57) 12 30 = slCond5 1 57 105 [some 1, some 57, some 57] (row13N 1 57 57) := by kernel_rfl
theorem row13_1_57_57_not_ok : CanOk Try.prog (relsR5 1 57) 12 (canSl 105 [some 1, some 57, some 57]) := can_of_condT hX2 hm2 (tab := t_row13_1_57_57_not) (tabCons (never3_ok 41) (tabR5_ok 1 57)) 30 (by decide) (by rw [row13_1_57_57_not]; exact slCond5_of fun l hl hp => row13N_law (.inl rfl) (.inr rfl) (.inr rfl) (hl.trans (by decide)) okRow7 hp)
end Go.Sx
