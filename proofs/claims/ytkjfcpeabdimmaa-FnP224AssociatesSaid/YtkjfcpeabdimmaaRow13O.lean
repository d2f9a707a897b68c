/- Row FnP224Associates where a slice has another length: the answer is true. -/
import Derived.Test.YtkjfcpeabdimmaaRow13
set_option linter.unusedVariables false
set_option linter.unusedSimpArgs false
set_option linter.constructorNameAsVariable false
set_option maxRecDepth 100000
set_option maxHeartbeats 4000000
namespace Go.Sx
open Go.Proofs Go.FP Go.EC
theorem row13_1_1_o : Can.condT (canSl 91 [some 1, some 1, none]) Try.prog X2 tabR4 relsR4 12 30 = slCond4 91 [some 1, some 1, none] (row13q 1 1) := by kernel_rfl
theorem row13_1_1_o_ok : CanOk Try.prog relsR4 12 (canSl 91 [some 1, some 1, none]) := can_of_condT hX2 hm2 (tab := tabR4) tabR4_ok 30 (by decide) (by rw [row13_1_1_o]; exact slCond4_of fun l hl hp => row13q_law (.inl rfl) (.inl rfl) (hl.trans (by decide)) hp (okRow (l := l)))
theorem row13_1_57_o : Can.condT (canSl 91 [some 1, some 57, none]) Try.prog X2 tabR4 relsR4 12 30 = slCond4 91 [some 1, some 57, none] (row13q 1 57) := by kernel_rfl
theorem row13_1_57_o_ok : CanOk Try.prog relsR4 12 (canSl 91 [some 1, some 57, none]) := can_of_condT hX2 hm2 (tab := tabR4) tabR4_ok 30 (by decide) (by rw [row13_1_57_o]; exact slCond4_of fun l hl hp => row13q_law (.inl rfl) (.inr rfl) (hl.trans (by decide)) hp (okRow (l := l)))
theorem row13_1_oo : Can.condT (canSl 98 [some 1, none, none]) Try.prog X2 tabR4 relsR4 12 30 = slCond4 98 [some 1, none, none] (row13p 1) := by kernel_rfl
theorem row13_1_oo_ok : CanOk Try.prog relsR4 12 (canSl 98 [some 1, none, none]) := can_of_condT hX2 hm2 (tab := tabR4) tabR4_ok 30 (by decide) (by rw [row13_1_oo]; exact slCond4_of fun l hl hp => row13p_law (.inl rfl) (by rw [hl]; decide) hp (okRow (l := l)))
theorem row13_57_1_o : Can.condT (canSl 91 [some 57, some 1, none]) Try.prog X2 tabR4 relsR4 12 30 = slCond4 91 [some 57, some 1, none] (row13q 57 1) := by kernel_rfl
theorem row13_57_1_o_ok : CanOk Try.prog relsR4 12 (canSl 91 [some 57, some 1, none]) := can_of_condT hX2 hm2 (tab := tabR4) tabR4_ok 30 (by decide) (by rw [row13_57_1_o]; exact slCond4_of fun l hl hp => row13q_law (.inr rfl) (.inl rfl) (hl.trans (by decide)) hp (okRow (l := l)))
theorem row13_57_57_o : Can.condT (canSl 91 [some 57, some 57, none]) Try.prog X2 tabR4 relsR4 12 30 = slCond4 91 [some 57, some 57, none] (row13q 57 57) := by kernel_rfl
theorem row13_57_57_o_ok : CanOk Try.prog relsR4 12 (canSl 91 [some 57, some 57, none]) := can_of_condT hX2 hm2 (tab := tabR4) tabR4_ok 30 (by decide) (by rw [row13_57_57_o]; exact slCond4_of fun l hl hp => row13q_law (.inr rfl) (.inr rfl) (hl.trans (by decide)) hp (okRow (l := l)))
theorem row13_57_oo : Can.condT (canSl 99 [some 57, none, none]) Try.prog X2 tabR4 relsR4 12 30 = slCond4 99 [some 57, none, none] (row13p 57) := by kernel_rfl
theorem row13_57_oo_ok : CanOk Try.prog relsR4 12 (canSl 99 [some 57, none, none]) := can_of_condT hX2 hm2 (tab := tabR4) tabR4_ok 30 (by decide) (by rw [row13_57_oo]; exact slCond4_of fun l hl hp => row13p_law (.inr rfl) (by rw [hl]; decide) hp (okRow (l := l)))
theorem row13_ooo : Can.condT (canSl 92 [none, none, none]) Try.prog X2 tabR4 relsR4 12 30 = slCond4 92 [none, none, none] row13o := by kernel_rfl
theorem row13_ooo_ok : CanOk Try.prog relsR4 12 (canSl 92 [none, none, none]) := can_of_condT hX2 hm2 (tab := tabR4) tabR4_ok 30 (by decide) (by rw [row13_ooo]; exact slCond4_of fun l hl hp => gtK_of (okRow (l := l)) (gtK_of (okRow (l := l)) (gtK_of (okRow (l := l)) (othK_of hp (okRow (l := l))))))
end Go.Sx
