/- The sum of two elements. -/
import Derived.Test.YtkjfcpeabdimmaaBaseLimb
set_option linter.unusedVariables false
set_option linter.unusedSimpArgs false
set_option linter.constructorNameAsVariable false
set_option maxRecDepth 100000
set_option maxHeartbeats 4000000
namespace Go.Sx
open Go.Proofs Go.FP Go.EC
def add_vc (Q : List Int → Prop) (x0 x1 x2 x3 x4 x5 x6 x7 : Int) : Prop :=
  (0 : Int) ≤ 1 ∧ ∀ r8 r9 : Int, r8 = (x0 + x4 + 0) % 18446744073709551616 → r9 = (x0 + x4 + 0) / 18446744073709551616 →
  (r9 : Int) ≤ 1 ∧ ∀ r10 r11 : Int, r10 = (x1 + x5 + r9) % 18446744073709551616 → r11 = (x1 + x5 + r9) / 18446744073709551616 →
  (r11 : Int) ≤ 1 ∧ ∀ r12 r13 : Int, r12 = (x2 + x6 + r11) % 18446744073709551616 → r13 = (x2 + x6 + r11) / 18446744073709551616 →
  (r13 : Int) ≤ 1 ∧ ∀ r14 r15 : Int, r14 = (x3 + x7 + r13) % 18446744073709551616 → r15 = (x3 + x7 + r13) / 18446744073709551616 →
  (0 : Int) ≤ 1 ∧ ∀ r16 r17 : Int, r16 = (r8 - 1 - 0) % 18446744073709551616 → r17 = (if r8 < 1 + 0 then 1 else 0) →
  (r17 : Int) ≤ 1 ∧ ∀ r18 r19 : Int, r18 = (r10 - 18446744069414584320 - r17) % 18446744073709551616 → r19 = (if r10 < 18446744069414584320 + r17 then 1 else 0) →
  (r19 : Int) ≤ 1 ∧ ∀ r20 r21 : Int, r20 = (r12 - 18446744073709551615 - r19) % 18446744073709551616 → r21 = (if r12 < 18446744073709551615 + r19 then 1 else 0) →
  (r21 : Int) ≤ 1 ∧ ∀ r22 r23 : Int, r22 = (r14 - 4294967295 - r21) % 18446744073709551616 → r23 = (if r14 < 4294967295 + r21 then 1 else 0) →
  (r23 : Int) ≤ 1 ∧ ∀ r24 r25 : Int, r24 = (r15 - 0 - r23) % 18446744073709551616 → r25 = (if r15 < 0 + r23 then 1 else 0) →
  (relsF 12).pre [r25, r16, r8] ∧ ∀ r26 : Int, (relsF 12).post [r25, r16, r8] [r26] →
  (relsF 12).pre [r25, r18, r10] ∧ ∀ r27 : Int, (relsF 12).post [r25, r18, r10] [r27] →
  (relsF 12).pre [r25, r20, r12] ∧ ∀ r28 : Int, (relsF 12).post [r25, r20, r12] [r28] →
  (relsF 12).pre [r25, r22, r14] ∧ ∀ r29 : Int, (relsF 12).post [r25, r22, r14] [r29] →
  Q [r26, r27, r28, r29]

theorem add_sum {x0 x1 x2 x3 x4 x5 x6 x7 r8 r9 r10 r11 r12 r13 r14 r15 : Int}
    (e8 : x0 + x4 + 0 = r8 + 18446744073709551616 * r9)
    (e10 : x1 + x5 + r9 = r10 + 18446744073709551616 * r11)
    (e12 : x2 + x6 + r11 = r12 + 18446744073709551616 * r13)
    (e14 : x3 + x7 + r13 = r14 + 18446744073709551616 * r15) :
    (r8 + 18446744073709551616 * r10 + 340282366920938463463374607431768211456 * r12 + 6277101735386680763835789423207666416102355444464034512896 * r14 + 115792089237316195423570985008687907853269984665640564039457584007913129639936 * r15) * 1 = 1 * x0 + 18446744073709551616 * x1 + 340282366920938463463374607431768211456 * x2 + 6277101735386680763835789423207666416102355444464034512896 * x3 + 1 * x4 + 18446744073709551616 * x5 + 340282366920938463463374607431768211456 * x6 + 6277101735386680763835789423207666416102355444464034512896 * x7 + (0) * 26959946667150639794667015087019630673557916260026308143510066298881 := by
  refine lin_fin (lin_add 6277101735386680763835789423207666416102355444464034512896 e14 (lin_add 340282366920938463463374607431768211456 e12 (lin_add 18446744073709551616 e10 (lin_add 1 e8 lin_zero)))) ?_
  clear e8 e10 e12 e14
  omega

theorem add_E {x0 x1 x2 x3 x4 x5 x6 x7 : Int} : 1 * x0 + 18446744073709551616 * x1 + 340282366920938463463374607431768211456 * x2 + 6277101735386680763835789423207666416102355444464034512896 * x3 + 1 * x4 + 18446744073709551616 * x5 + 340282366920938463463374607431768211456 * x6 + 6277101735386680763835789423207666416102355444464034512896 * x7 = val64 [x0, x1, x2, x3] + val64 [x4, x5, x6, x7] := by
  simp only [val64_4]
  grind

theorem add_law {Q : List Int → Prop} {x0 x1 x2 x3 x4 x5 x6 x7 : Int}
    (l0 : 0 ≤ x0) (h0 : x0 ≤ 18446744073709551615) (l1 : 0 ≤ x1) (h1 : x1 ≤ 18446744073709551615) (l2 : 0 ≤ x2) (h2 : x2 ≤ 18446744073709551615) (l3 : 0 ≤ x3) (h3 : x3 ≤ 18446744073709551615) (l4 : 0 ≤ x4) (h4 : x4 ≤ 18446744073709551615) (l5 : 0 ≤ x5) (h5 : x5 ≤ 18446744073709551615) (l6 : 0 ≤ x6) (h6 : x6 ≤ 18446744073709551615) (l7 : 0 ≤ x7) (h7 : x7 ≤ 18446744073709551615)
    (hA : 0 ≤ val64 [x0, x1, x2, x3] ∧ val64 [x0, x1, x2, x3] < pI) (hB : 0 ≤ val64 [x4, x5, x6, x7] ∧ val64 [x4, x5, x6, x7] < pI)
    (hQ : ∀ o0 o1 o2 o3 : Int, Core 1 (val64 [x0, x1, x2, x3] + val64 [x4, x5, x6, x7]) o0 o1 o2 o3 → Q [o0, o1, o2, o3]) : add_vc Q x0 x1 x2 x3 x4 x5 x6 x7 := by
  unfold add_vc
  refine ⟨(by decide), fun r8 r9 s8 s9 => ?_⟩
  obtain ⟨l8, h8, l9, h9, e8⟩ := add64_spec l0 h0 l4 h4 (by decide) (by decide) s8 s9
  clear s8 s9
  refine ⟨h9, fun r10 r11 s10 s11 => ?_⟩
  obtain ⟨l10, h10, l11, h11, e10⟩ := add64_spec l1 h1 l5 h5 l9 h9 s10 s11
  clear s10 s11
  refine ⟨h11, fun r12 r13 s12 s13 => ?_⟩
  obtain ⟨l12, h12, l13, h13, e12⟩ := add64_spec l2 h2 l6 h6 l11 h11 s12 s13
  clear s12 s13
  refine ⟨h13, fun r14 r15 s14 s15 => ?_⟩
  obtain ⟨l14, h14, l15, h15, e14⟩ := add64_spec l3 h3 l7 h7 l13 h13 s14 s15
  clear s14 s15
  refine ⟨(by decide), fun r16 r17 s16 s17 => ?_⟩
  obtain ⟨l16, h16, l17, h17, e16⟩ := sub64_spec l8 h8 (by decide) (by decide) (by decide) (by decide) s16 s17
  clear s16 s17
  refine ⟨h17, fun r18 r19 s18 s19 => ?_⟩
  obtain ⟨l18, h18, l19, h19, e18⟩ := sub64_spec l10 h10 (by decide) (by decide) l17 h17 s18 s19
  clear s18 s19
  refine ⟨h19, fun r20 r21 s20 s21 => ?_⟩
  obtain ⟨l20, h20, l21, h21, e20⟩ := sub64_spec l12 h12 (by decide) (by decide) l19 h19 s20 s21
  clear s20 s21
  refine ⟨h21, fun r22 r23 s22 s23 => ?_⟩
  obtain ⟨l22, h22, l23, h23, e22⟩ := sub64_spec l14 h14 (by decide) (by decide) l21 h21 s22 s23
  clear s22 s23
  refine ⟨h23, fun r24 r25 s24 s25 => ?_⟩
  obtain ⟨l24, h24, l25, h25, e24⟩ := sub64_spec l15 (Int.le_trans h15 (by decide)) (by decide) (by decide) l23 h23 s24 s25
  clear s24 s25
  refine ⟨⟨l25, h25⟩, fun r26 w26 => ?_⟩
  have w26 := cmov_post w26
  refine ⟨⟨l25, h25⟩, fun r27 w27 => ?_⟩
  have w27 := cmov_post w27
  refine ⟨⟨l25, h25⟩, fun r28 w28 => ?_⟩
  have w28 := cmov_post w28
  refine ⟨⟨l25, h25⟩, fun r29 w29 => ?_⟩
  have w29 := cmov_post w29
  have k := add_sum e8 e10 e12 e14
  rw [add_E] at k
  have kT := bound_add k hA hB rfl
  exact hQ _ _ _ _ (finish k l8 h8 l10 h10 l12 h12 l14 h14 l15 kT l16 h16 l17 h17 l18 h18 l19 h19 l20 h20 l21 h21 l22 h22 l23 h23 l24 h24 l25 h25 e16 e18 e20 e22 e24 w26 w27 w28 w29)

theorem add_cond : Can.cond (bin4 8) Try.prog X2 tabL relsF 91 0 =
  (∀ x0 x1 x2 x3 x4 x5 x6 x7 : Int,
  0 ≤ x0 → x0 ≤ 18446744073709551615 →
  0 ≤ x1 → x1 ≤ 18446744073709551615 →
  0 ≤ x2 → x2 ≤ 18446744073709551615 →
  0 ≤ x3 → x3 ≤ 18446744073709551615 →
  0 ≤ x4 → x4 ≤ 18446744073709551615 →
  0 ≤ x5 → x5 ≤ 18446744073709551615 →
  0 ≤ x6 → x6 ≤ 18446744073709551615 →
  0 ≤ x7 → x7 ≤ 18446744073709551615 →
  (relsF 8).pre [x0, x1, x2, x3, x4, x5, x6, x7] →
  add_vc ((relsF 8).post [x0, x1, x2, x3, x4, x5, x6, x7]) x0 x1 x2 x3 x4 x5 x6 x7) := by kernel_rfl
theorem add_con : ConOk Try.prog relsF 91 ((bin4 8)).con := can_of_cond hX2 hm2 (tab := tabL) tabL_ok 0 (by decide) (by
  rw [add_cond]
  intro x0 x1 x2 x3 x4 x5 x6 x7 l0 h0 l1 h1 l2 h2 l3 h3 l4 h4 l5 h5 l6 h6 l7 h7 hp
  exact add_law l0 h0 l1 h1 l2 h2 l3 h3 l4 h4 l5 h5 l6 h6 l7 h7 ⟨val64_nonneg hp.1.1, hp.1.2⟩ ⟨val64_nonneg hp.2.1, hp.2.2⟩ fun o0 o1 o2 o3 hc => by
    obtain ⟨hok, q, hq⟩ := hc.ok
    exact ⟨hok, conv_add hq⟩)

theorem addA_cond : Can.cond (bin4a 8) Try.prog X2 tabL relsF 91 0 =
  (∀ x0 x1 x2 x3 x4 x5 x6 x7 : Int,
  0 ≤ x0 → x0 ≤ 18446744073709551615 →
  0 ≤ x1 → x1 ≤ 18446744073709551615 →
  0 ≤ x2 → x2 ≤ 18446744073709551615 →
  0 ≤ x3 → x3 ≤ 18446744073709551615 →
  0 ≤ x4 → x4 ≤ 18446744073709551615 →
  0 ≤ x5 → x5 ≤ 18446744073709551615 →
  0 ≤ x6 → x6 ≤ 18446744073709551615 →
  0 ≤ x7 → x7 ≤ 18446744073709551615 →
  (relsF 8).pre [x0, x1, x2, x3, x4, x5, x6, x7] →
  add_vc ((relsF 8).post [x0, x1, x2, x3, x4, x5, x6, x7]) x0 x1 x2 x3 x4 x5 x6 x7) := by kernel_rfl
theorem addA_con : ConOk Try.prog relsF 91 ((bin4a 8)).con := can_of_cond hX2 hm2 (tab := tabL) tabL_ok 0 (by decide) (by
  rw [addA_cond]
  intro x0 x1 x2 x3 x4 x5 x6 x7 l0 h0 l1 h1 l2 h2 l3 h3 l4 h4 l5 h5 l6 h6 l7 h7 hp
  exact add_law l0 h0 l1 h1 l2 h2 l3 h3 l4 h4 l5 h5 l6 h6 l7 h7 ⟨val64_nonneg hp.1.1, hp.1.2⟩ ⟨val64_nonneg hp.2.1, hp.2.2⟩ fun o0 o1 o2 o3 hc => by
    obtain ⟨hok, q, hq⟩ := hc.ok
    exact ⟨hok, conv_add hq⟩)

theorem addB_cond : Can.cond (bin4b 8) Try.prog X2 tabL relsF 91 0 =
  (∀ x0 x1 x2 x3 x4 x5 x6 x7 : Int,
  0 ≤ x0 → x0 ≤ 18446744073709551615 →
  0 ≤ x1 → x1 ≤ 18446744073709551615 →
  0 ≤ x2 → x2 ≤ 18446744073709551615 →
  0 ≤ x3 → x3 ≤ 18446744073709551615 →
  0 ≤ x4 → x4 ≤ 18446744073709551615 →
  0 ≤ x5 → x5 ≤ 18446744073709551615 →
  0 ≤ x6 → x6 ≤ 18446744073709551615 →
  0 ≤ x7 → x7 ≤ 18446744073709551615 →
  (relsF 8).pre [x0, x1, x2, x3, x4, x5, x6, x7] →
  add_vc ((relsF 8).post [x0, x1, x2, x3, x4, x5, x6, x7]) x4 x5 x6 x7 x0 x1 x2 x3) := by kernel_rfl
theorem addB_con : ConOk Try.prog relsF 91 ((bin4b 8)).con := can_of_cond hX2 hm2 (tab := tabL) tabL_ok 0 (by decide) (by
  rw [addB_cond]
  intro x0 x1 x2 x3 x4 x5 x6 x7 l0 h0 l1 h1 l2 h2 l3 h3 l4 h4 l5 h5 l6 h6 l7 h7 hp
  exact add_law l4 h4 l5 h5 l6 h6 l7 h7 l0 h0 l1 h1 l2 h2 l3 h3 ⟨val64_nonneg hp.2.1, hp.2.2⟩ ⟨val64_nonneg hp.1.1, hp.1.2⟩ fun o0 o1 o2 o3 hc => by
    obtain ⟨hok, q, hq⟩ := hc.ok
    exact ⟨hok, (conv_add hq).trans (add_comm_F _ _)⟩)

theorem addS_cond : Can.cond (bin4s 9) Try.prog X2 tabL relsF 91 0 =
  (∀ x0 x1 x2 x3 : Int,
  0 ≤ x0 → x0 ≤ 18446744073709551615 →
  0 ≤ x1 → x1 ≤ 18446744073709551615 →
  0 ≤ x2 → x2 ≤ 18446744073709551615 →
  0 ≤ x3 → x3 ≤ 18446744073709551615 →
  (relsF 9).pre [x0, x1, x2, x3] →
  add_vc ((relsF 9).post [x0, x1, x2, x3]) x0 x1 x2 x3 x0 x1 x2 x3) := by kernel_rfl
theorem addS_con : ConOk Try.prog relsF 91 ((bin4s 9)).con := can_of_cond hX2 hm2 (tab := tabL) tabL_ok 0 (by decide) (by
  rw [addS_cond]
  intro x0 x1 x2 x3 l0 h0 l1 h1 l2 h2 l3 h3 hp
  exact add_law l0 h0 l1 h1 l2 h2 l3 h3 l0 h0 l1 h1 l2 h2 l3 h3 ⟨val64_nonneg hp.1, hp.2⟩ ⟨val64_nonneg hp.1, hp.2⟩ fun o0 o1 o2 o3 hc => by
    obtain ⟨hok, q, hq⟩ := hc.ok
    exact ⟨hok, conv_add hq⟩)
end Go.Sx
