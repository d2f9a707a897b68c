/- The difference of two elements. -/
import Derived.Test.YtkjfcpeabdimmaaBaseLimb
set_option linter.unusedVariables false
set_option linter.unusedSimpArgs false
set_option linter.constructorNameAsVariable false
set_option maxRecDepth 100000
set_option maxHeartbeats 4000000
namespace Go.Sx
open Go.Proofs Go.FP Go.EC
def sub_vc (Q : List Int → Prop) (x0 x1 x2 x3 x4 x5 x6 x7 : Int) : Prop :=
  (0 : Int) ≤ 1 ∧ ∀ r8 r9 : Int, r8 = (x0 - x4 - 0) % 18446744073709551616 → r9 = (if x0 < x4 + 0 then 1 else 0) →
  (r9 : Int) ≤ 1 ∧ ∀ r10 r11 : Int, r10 = (x1 - x5 - r9) % 18446744073709551616 → r11 = (if x1 < x5 + r9 then 1 else 0) →
  (r11 : Int) ≤ 1 ∧ ∀ r12 r13 : Int, r12 = (x2 - x6 - r11) % 18446744073709551616 → r13 = (if x2 < x6 + r11 then 1 else 0) →
  (r13 : Int) ≤ 1 ∧ ∀ r14 r15 : Int, r14 = (x3 - x7 - r13) % 18446744073709551616 → r15 = (if x3 < x7 + r13 then 1 else 0) →
  (relsF 12).pre [r15, 0, 18446744073709551615] ∧ ∀ r16 : Int, (relsF 12).post [r15, 0, 18446744073709551615] [r16] →
  ∀ r17 : Int, r17 = binFn .and .u64 r16 1 →
  (0 : Int) ≤ 1 ∧ ∀ r18 r19 : Int, r18 = (r8 + r17 + 0) % 18446744073709551616 → r19 = (r8 + r17 + 0) / 18446744073709551616 →
  ∀ r20 : Int, r20 = binFn .and .u64 r16 18446744069414584320 →
  (r19 : Int) ≤ 1 ∧ ∀ r21 r22 : Int, r21 = (r10 + r20 + r19) % 18446744073709551616 → r22 = (r10 + r20 + r19) / 18446744073709551616 →
  (r22 : Int) ≤ 1 ∧ ∀ r23 r24 : Int, r23 = (r12 + r16 + r22) % 18446744073709551616 → r24 = (r12 + r16 + r22) / 18446744073709551616 →
  ∀ r25 : Int, r25 = binFn .and .u64 r16 4294967295 →
  (r24 : Int) ≤ 1 ∧ ∀ r26 r27 : Int, r26 = (r14 + r25 + r24) % 18446744073709551616 → r27 = (r14 + r25 + r24) / 18446744073709551616 →
  Q [r18, r21, r23, r26]

theorem sub_sum {x0 x1 x2 x3 x4 x5 x6 x7 r8 r9 r10 r11 r12 r13 r14 r15 : Int} (e8 : x0 - x4 - 0 = r8 - 18446744073709551616 * r9) (e10 : x1 - x5 - r9 = r10 - 18446744073709551616 * r11) (e12 : x2 - x6 - r11 = r12 - 18446744073709551616 * r13) (e14 : x3 - x7 - r13 = r14 - 18446744073709551616 * r15) :
    (x0 + 18446744073709551616 * x1 + 340282366920938463463374607431768211456 * x2 + 6277101735386680763835789423207666416102355444464034512896 * x3) - (x4 + 18446744073709551616 * x5 + 340282366920938463463374607431768211456 * x6 + 6277101735386680763835789423207666416102355444464034512896 * x7) = r8 + 18446744073709551616 * r10 + 340282366920938463463374607431768211456 * r12 + 6277101735386680763835789423207666416102355444464034512896 * r14 - 115792089237316195423570985008687907853269984665640564039457584007913129639936 * r15 := by
  refine lin_fin (lin_add (-1) e8 (lin_add (-18446744073709551616) e10 (lin_add (-340282366920938463463374607431768211456) e12 (lin_add (-6277101735386680763835789423207666416102355444464034512896) e14 lin_zero)))) ?_
  clear e8 e10 e12 e14
  omega
theorem sub_fin0 {x0 x1 x2 x3 x4 x5 x6 x7 r8 r9 r10 r11 r12 r13 r14 r18 r19 r21 r22 r23 r24 r26 r27 : Int} (hA : x0 + 18446744073709551616 * x1 + 340282366920938463463374607431768211456 * x2 + 6277101735386680763835789423207666416102355444464034512896 * x3 < 26959946667150639794667015087019630673557916260026308143510066298881) (hB : 0 ≤ x4 + 18446744073709551616 * x5 + 340282366920938463463374607431768211456 * x6 + 6277101735386680763835789423207666416102355444464034512896 * x7) (l8 : 0 ≤ r8) (h8 : r8 ≤ 18446744073709551615) (l10 : 0 ≤ r10) (h10 : r10 ≤ 18446744073709551615) (l12 : 0 ≤ r12) (h12 : r12 ≤ 18446744073709551615) (l14 : 0 ≤ r14) (h14 : r14 ≤ 18446744073709551615) (e8 : x0 - x4 - 0 = r8 - 18446744073709551616 * r9) (e10 : x1 - x5 - r9 = r10 - 18446744073709551616 * r11) (e12 : x2 - x6 - r11 = r12 - 18446744073709551616 * r13) (e14 : x3 - x7 - r13 = r14 - 18446744073709551616 * 0)
    (l18 : 0 ≤ r18) (h18 : r18 ≤ 18446744073709551615) (l19 : 0 ≤ r19) (h19 : r19 ≤ 1) (l21 : 0 ≤ r21) (h21 : r21 ≤ 18446744073709551615) (l22 : 0 ≤ r22) (h22 : r22 ≤ 1) (l23 : 0 ≤ r23) (h23 : r23 ≤ 18446744073709551615) (l24 : 0 ≤ r24) (h24 : r24 ≤ 1) (l26 : 0 ≤ r26) (h26 : r26 ≤ 18446744073709551615) (l27 : 0 ≤ r27) (h27 : r27 ≤ 1)
    (e18 : r8 + 0 + 0 = r18 + 18446744073709551616 * r19) (e21 : r10 + 0 + r19 = r21 + 18446744073709551616 * r22) (e23 : r12 + 0 + r22 = r23 + 18446744073709551616 * r24) (e26 : r14 + 0 + r24 = r26 + 18446744073709551616 * r27) :
    Core 1 (x0 + 18446744073709551616 * x1 + 340282366920938463463374607431768211456 * x2 + 6277101735386680763835789423207666416102355444464034512896 * x3 - (x4 + 18446744073709551616 * x5 + 340282366920938463463374607431768211456 * x6 + 6277101735386680763835789423207666416102355444464034512896 * x7)) r18 r21 r23 r26 := by
  have hs := sub_sum e8 e10 e12 e14
  clear e8 e10 e12 e14
  have a1 : r18 = r8 ∧ r19 = 0 := by clear hA hB hs e21 e23 e26; omega
  obtain ⟨rfl, rfl⟩ := a1
  have a2 : r21 = r10 ∧ r22 = 0 := by clear hA hB hs e18 e23 e26; omega
  obtain ⟨rfl, rfl⟩ := a2
  have a3 : r23 = r12 ∧ r24 = 0 := by clear hA hB hs e18 e21 e26; omega
  obtain ⟨rfl, rfl⟩ := a3
  have a4 : r26 = r14 := by clear hA hB hs e18 e21 e23; omega
  subst a4
  rw [hs]
  refine ⟨⟨l18, h18⟩, ⟨l21, h21⟩, ⟨l23, h23⟩, ⟨l26, h26⟩, ?_, 0, ?_⟩
  · generalize r18 + 18446744073709551616 * r21 + 340282366920938463463374607431768211456 * r23 + 6277101735386680763835789423207666416102355444464034512896 * r26 = t at *
    clear e18 e21 e23 e26
    generalize x0 + 18446744073709551616 * x1 + 340282366920938463463374607431768211456 * x2 + 6277101735386680763835789423207666416102355444464034512896 * x3 = a at *
    generalize x4 + 18446744073709551616 * x5 + 340282366920938463463374607431768211456 * x6 + 6277101735386680763835789423207666416102355444464034512896 * x7 = b at *
    omega
  · generalize r18 + 18446744073709551616 * r21 + 340282366920938463463374607431768211456 * r23 + 6277101735386680763835789423207666416102355444464034512896 * r26 = t at *
    omega
theorem sub_fin1 {x0 x1 x2 x3 x4 x5 x6 x7 r8 r9 r10 r11 r12 r13 r14 r18 r19 r21 r22 r23 r24 r26 r27 : Int} (hA : 0 ≤ x0 + 18446744073709551616 * x1 + 340282366920938463463374607431768211456 * x2 + 6277101735386680763835789423207666416102355444464034512896 * x3) (hB : x4 + 18446744073709551616 * x5 + 340282366920938463463374607431768211456 * x6 + 6277101735386680763835789423207666416102355444464034512896 * x7 < 26959946667150639794667015087019630673557916260026308143510066298881) (l8 : 0 ≤ r8) (h8 : r8 ≤ 18446744073709551615) (l10 : 0 ≤ r10) (h10 : r10 ≤ 18446744073709551615) (l12 : 0 ≤ r12) (h12 : r12 ≤ 18446744073709551615) (l14 : 0 ≤ r14) (h14 : r14 ≤ 18446744073709551615) (e8 : x0 - x4 - 0 = r8 - 18446744073709551616 * r9) (e10 : x1 - x5 - r9 = r10 - 18446744073709551616 * r11) (e12 : x2 - x6 - r11 = r12 - 18446744073709551616 * r13) (e14 : x3 - x7 - r13 = r14 - 18446744073709551616 * 1)
    (l18 : 0 ≤ r18) (h18 : r18 ≤ 18446744073709551615) (l19 : 0 ≤ r19) (h19 : r19 ≤ 1) (l21 : 0 ≤ r21) (h21 : r21 ≤ 18446744073709551615) (l22 : 0 ≤ r22) (h22 : r22 ≤ 1) (l23 : 0 ≤ r23) (h23 : r23 ≤ 18446744073709551615) (l24 : 0 ≤ r24) (h24 : r24 ≤ 1) (l26 : 0 ≤ r26) (h26 : r26 ≤ 18446744073709551615) (l27 : 0 ≤ r27) (h27 : r27 ≤ 1)
    (e18 : r8 + 1 + 0 = r18 + 18446744073709551616 * r19) (e21 : r10 + 18446744069414584320 + r19 = r21 + 18446744073709551616 * r22) (e23 : r12 + 18446744073709551615 + r22 = r23 + 18446744073709551616 * r24) (e26 : r14 + 4294967295 + r24 = r26 + 18446744073709551616 * r27) :
    Core 1 (x0 + 18446744073709551616 * x1 + 340282366920938463463374607431768211456 * x2 + 6277101735386680763835789423207666416102355444464034512896 * x3 - (x4 + 18446744073709551616 * x5 + 340282366920938463463374607431768211456 * x6 + 6277101735386680763835789423207666416102355444464034512896 * x7)) r18 r21 r23 r26 := by
  have hs := sub_sum e8 e10 e12 e14
  clear e8 e10 e12 e14
  have ht : r8 + 18446744073709551616 * r10 + 340282366920938463463374607431768211456 * r12 + 6277101735386680763835789423207666416102355444464034512896 * r14 + 26959946667150639794667015087019630673557916260026308143510066298881 =
      r18 + 18446744073709551616 * r21 + 340282366920938463463374607431768211456 * r23 + 6277101735386680763835789423207666416102355444464034512896 * r26 + 115792089237316195423570985008687907853269984665640564039457584007913129639936 * r27 := by
    refine lin_fin (lin_add (-1) e18 (lin_add (-18446744073709551616) e21 (lin_add (-340282366920938463463374607431768211456) e23 (lin_add (-6277101735386680763835789423207666416102355444464034512896) e26 lin_zero)))) ?_
    clear e18 e21 e23 e26 hs hA hB
    omega
  clear e18 e21 e23 e26
  have ho : 0 ≤ r18 + 18446744073709551616 * r21 + 340282366920938463463374607431768211456 * r23 + 6277101735386680763835789423207666416102355444464034512896 * r26 ∧ r18 + 18446744073709551616 * r21 + 340282366920938463463374607431768211456 * r23 + 6277101735386680763835789423207666416102355444464034512896 * r26 < 115792089237316195423570985008687907853269984665640564039457584007913129639936 := by
    clear hs ht hA hB; omega
  have hd : r8 + 18446744073709551616 * r10 + 340282366920938463463374607431768211456 * r12 + 6277101735386680763835789423207666416102355444464034512896 * r14 < 115792089237316195423570985008687907853269984665640564039457584007913129639936 := by
    clear hs ht hA hB ho; omega
  generalize hdd : r8 + 18446744073709551616 * r10 + 340282366920938463463374607431768211456 * r12 + 6277101735386680763835789423207666416102355444464034512896 * r14 = d at *
  generalize hoo : r18 + 18446744073709551616 * r21 + 340282366920938463463374607431768211456 * r23 + 6277101735386680763835789423207666416102355444464034512896 * r26 = t at *
  rw [hs]
  generalize x0 + 18446744073709551616 * x1 + 340282366920938463463374607431768211456 * x2 + 6277101735386680763835789423207666416102355444464034512896 * x3 = a at *
  generalize x4 + 18446744073709551616 * x5 + 340282366920938463463374607431768211456 * x6 + 6277101735386680763835789423207666416102355444464034512896 * x7 = b at *
  have h27 : r27 = 1 := by clear hdd hoo; omega
  subst h27
  refine ⟨⟨l18, h18⟩, ⟨l21, h21⟩, ⟨l23, h23⟩, ⟨l26, h26⟩, ?_, 1, ?_⟩
  · rw [hoo]; clear hdd hoo; omega
  · rw [hoo]; clear hdd hoo; omega

theorem sub_law {Q : List Int → Prop} {x0 x1 x2 x3 x4 x5 x6 x7 : Int}
    (l0 : 0 ≤ x0) (h0 : x0 ≤ 18446744073709551615) (l1 : 0 ≤ x1) (h1 : x1 ≤ 18446744073709551615) (l2 : 0 ≤ x2) (h2 : x2 ≤ 18446744073709551615) (l3 : 0 ≤ x3) (h3 : x3 ≤ 18446744073709551615)
    (l4 : 0 ≤ x4) (h4 : x4 ≤ 18446744073709551615) (l5 : 0 ≤ x5) (h5 : x5 ≤ 18446744073709551615) (l6 : 0 ≤ x6) (h6 : x6 ≤ 18446744073709551615) (l7 : 0 ≤ x7) (h7 : x7 ≤ 18446744073709551615)
    (hA : 0 ≤ val64 [x0, x1, x2, x3] ∧ val64 [x0, x1, x2, x3] < pI) (hB : 0 ≤ val64 [x4, x5, x6, x7] ∧ val64 [x4, x5, x6, x7] < pI)
    (hQ : ∀ o0 o1 o2 o3 : Int, Core 1 (val64 [x0, x1, x2, x3] - val64 [x4, x5, x6, x7]) o0 o1 o2 o3 → Q [o0, o1, o2, o3]) : sub_vc Q x0 x1 x2 x3 x4 x5 x6 x7 := by
  unfold sub_vc
  refine ⟨by decide, fun r8 r9 s8 s9 => ?_⟩
  obtain ⟨l8, h8, l9, h9, e8⟩ := sub64_spec l0 h0 l4 h4 (by decide) (by decide) s8 s9
  clear s8 s9
  refine ⟨h9, fun r10 r11 s8 s9 => ?_⟩
  obtain ⟨l10, h10, l11, h11, e10⟩ := sub64_spec l1 h1 l5 h5 l9 h9 s8 s9
  clear s8 s9
  refine ⟨h11, fun r12 r13 s8 s9 => ?_⟩
  obtain ⟨l12, h12, l13, h13, e12⟩ := sub64_spec l2 h2 l6 h6 l11 h11 s8 s9
  clear s8 s9
  refine ⟨h13, fun r14 r15 s8 s9 => ?_⟩
  obtain ⟨l14, h14, l15, h15, e14⟩ := sub64_spec l3 h3 l7 h7 l13 h13 s8 s9
  clear s8 s9
  refine ⟨⟨l15, h15⟩, fun r16 w => ?_⟩
  have w := cmov_post w
  intro r17 e17
  simp only [val64_4, pI] at hA hB hQ
  have hb : r15 = 0 ∨ r15 = 1 := by omega
  rcases hb with hb | hb
  · have h16 := w.1 hb
    clear w
    subst hb h16
    rw [and_none] at e17
    subst e17
    refine ⟨by decide, fun r18 r19 s8 s9 => ?_⟩
    obtain ⟨l18, h18, l19, h19, e18⟩ := add64_spec l8 h8 (by decide) (by decide) (by decide) (by decide) s8 s9
    clear s8 s9
    intro r20 e20
    rw [and_none] at e20
    subst e20
    refine ⟨h19, fun r21 r22 s8 s9 => ?_⟩
    obtain ⟨l21, h21, l22, h22, e21⟩ := add64_spec l10 h10 (by decide) (by decide) l19 h19 s8 s9
    clear s8 s9
    refine ⟨h22, fun r23 r24 s8 s9 => ?_⟩
    obtain ⟨l23, h23, l24, h24, e23⟩ := add64_spec l12 h12 (by decide) (by decide) l22 h22 s8 s9
    clear s8 s9
    intro r25 e25
    rw [and_none] at e25
    subst e25
    refine ⟨h24, fun r26 r27 s8 s9 => ?_⟩
    obtain ⟨l26, h26, l27, h27, e26⟩ := add64_spec l14 h14 (by decide) (by decide) l24 h24 s8 s9
    clear s8 s9
    exact hQ _ _ _ _ (sub_fin0 hA.2 hB.1 l8 h8 l10 h10 l12 h12 l14 h14 e8 e10 e12 e14 l18 h18 l19 h19 l21 h21 l22 h22 l23 h23 l24 h24 l26 h26 l27 h27 e18 e21 e23 e26)
  · have h16 := w.2 hb
    clear w
    subst hb h16
    rw [show binFn .and .u64 18446744073709551615 1 = 1 by decide +kernel] at e17
    subst e17
    refine ⟨by decide, fun r18 r19 s8 s9 => ?_⟩
    obtain ⟨l18, h18, l19, h19, e18⟩ := add64_spec l8 h8 (by decide) (by decide) (by decide) (by decide) s8 s9
    clear s8 s9
    intro r20 e20
    rw [show binFn .and .u64 18446744073709551615 18446744069414584320 = 18446744069414584320 by decide +kernel] at e20
    subst e20
    refine ⟨h19, fun r21 r22 s8 s9 => ?_⟩
    obtain ⟨l21, h21, l22, h22, e21⟩ := add64_spec l10 h10 (by decide) (by decide) l19 h19 s8 s9
    clear s8 s9
    refine ⟨h22, fun r23 r24 s8 s9 => ?_⟩
    obtain ⟨l23, h23, l24, h24, e23⟩ := add64_spec l12 h12 (by decide) (by decide) l22 h22 s8 s9
    clear s8 s9
    intro r25 e25
    rw [show binFn .and .u64 18446744073709551615 4294967295 = 4294967295 by decide +kernel] at e25
    subst e25
    refine ⟨h24, fun r26 r27 s8 s9 => ?_⟩
    obtain ⟨l26, h26, l27, h27, e26⟩ := add64_spec l14 h14 (by decide) (by decide) l24 h24 s8 s9
    clear s8 s9
    exact hQ _ _ _ _ (sub_fin1 hA.1 hB.2 l8 h8 l10 h10 l12 h12 l14 h14 e8 e10 e12 e14 l18 h18 l19 h19 l21 h21 l22 h22 l23 h23 l24 h24 l26 h26 l27 h27 e18 e21 e23 e26)

theorem sub_cond : Can.cond (bin4 10) Try.prog X2 tabL relsF 92 0 =
  (∀ x0 x1 x2 x3 x4 x5 x6 x7 : Int,
  0 ≤ x0 → x0 ≤ 18446744073709551615 →
  0 ≤ x1 → x1 ≤ 18446744073709551615 →
  0 ≤ x2 → x2 ≤ 18446744073709551615 →
  0 ≤ x3 → x3 ≤ 18446744073709551615 →
  0 ≤ x4 → x4 ≤ 18446744073709551615 →
  0 ≤ x5 → x5 ≤ 18446744073709551615 →
  0 ≤ x6 → x6 ≤ 18446744073709551615 →
  0 ≤ x7 → x7 ≤ 18446744073709551615 →
  (relsF 10).pre [x0, x1, x2, x3, x4, x5, x6, x7] →
  sub_vc ((relsF 10).post [x0, x1, x2, x3, x4, x5, x6, x7]) x0 x1 x2 x3 x4 x5 x6 x7) := by kernel_rfl
theorem sub_con : ConOk Try.prog relsF 92 ((bin4 10)).con := can_of_cond hX2 hm2 (tab := tabL) tabL_ok 0 (by decide) (by
  rw [sub_cond]
  intro x0 x1 x2 x3 x4 x5 x6 x7 l0 h0 l1 h1 l2 h2 l3 h3 l4 h4 l5 h5 l6 h6 l7 h7 hp
  exact sub_law l0 h0 l1 h1 l2 h2 l3 h3 l4 h4 l5 h5 l6 h6 l7 h7 ⟨val64_nonneg hp.1.1, hp.1.2⟩ ⟨val64_nonneg hp.2.1, hp.2.2⟩ fun o0 o1 o2 o3 hc => by
    obtain ⟨hok, q, hq⟩ := hc.ok
    exact ⟨hok, conv_sub (by rw [← Int.mul_one (val64 [o0, o1, o2, o3])]; exact hq)⟩)

theorem subA_cond : Can.cond (bin4a 10) Try.prog X2 tabL relsF 92 0 =
  (∀ x0 x1 x2 x3 x4 x5 x6 x7 : Int,
  0 ≤ x0 → x0 ≤ 18446744073709551615 →
  0 ≤ x1 → x1 ≤ 18446744073709551615 →
  0 ≤ x2 → x2 ≤ 18446744073709551615 →
  0 ≤ x3 → x3 ≤ 18446744073709551615 →
  0 ≤ x4 → x4 ≤ 18446744073709551615 →
  0 ≤ x5 → x5 ≤ 18446744073709551615 →
  0 ≤ x6 → x6 ≤ 18446744073709551615 →
  0 ≤ x7 → x7 ≤ 18446744073709551615 →
  (relsF 10).pre [x0, x1, x2, x3, x4, x5, x6, x7] →
  sub_vc ((relsF 10).post [x0, x1, x2, x3, x4, x5, x6, x7]) x0 x1 x2 x3 x4 x5 x6 x7) := by kernel_rfl
theorem subA_con : ConOk Try.prog relsF 92 ((bin4a 10)).con := can_of_cond hX2 hm2 (tab := tabL) tabL_ok 0 (by decide) (by
  rw [subA_cond]
  intro x0 x1 x2 x3 x4 x5 x6 x7 l0 h0 l1 h1 l2 h2 l3 h3 l4 h4 l5 h5 l6 h6 l7 h7 hp
  exact sub_law l0 h0 l1 h1 l2 h2 l3 h3 l4 h4 l5 h5 l6 h6 l7 h7 ⟨val64_nonneg hp.1.1, hp.1.2⟩ ⟨val64_nonneg hp.2.1, hp.2.2⟩ fun o0 o1 o2 o3 hc => by
    obtain ⟨hok, q, hq⟩ := hc.ok
    exact ⟨hok, conv_sub (by rw [← Int.mul_one (val64 [o0, o1, o2, o3])]; exact hq)⟩)

theorem subB_cond : Can.cond (bin4b 11) Try.prog X2 tabL relsF 92 0 =
  (∀ x0 x1 x2 x3 x4 x5 x6 x7 : Int,
  0 ≤ x0 → x0 ≤ 18446744073709551615 →
  0 ≤ x1 → x1 ≤ 18446744073709551615 →
  0 ≤ x2 → x2 ≤ 18446744073709551615 →
  0 ≤ x3 → x3 ≤ 18446744073709551615 →
  0 ≤ x4 → x4 ≤ 18446744073709551615 →
  0 ≤ x5 → x5 ≤ 18446744073709551615 →
  0 ≤ x6 → x6 ≤ 18446744073709551615 →
  0 ≤ x7 → x7 ≤ 18446744073709551615 →
  (relsF 11).pre [x0, x1, x2, x3, x4, x5, x6, x7] →
  sub_vc ((relsF 11).post [x0, x1, x2, x3, x4, x5, x6, x7]) x4 x5 x6 x7 x0 x1 x2 x3) := by kernel_rfl
theorem subB_con : ConOk Try.prog relsF 92 ((bin4b 11)).con := can_of_cond hX2 hm2 (tab := tabL) tabL_ok 0 (by decide) (by
  rw [subB_cond]
  intro x0 x1 x2 x3 x4 x5 x6 x7 l0 h0 l1 h1 l2 h2 l3 h3 l4 h4 l5 h5 l6 h6 l7 h7 hp
  exact sub_law l4 h4 l5 h5 l6 h6 l7 h7 l0 h0 l1 h1 l2 h2 l3 h3 ⟨val64_nonneg hp.2.1, hp.2.2⟩ ⟨val64_nonneg hp.1.1, hp.1.2⟩ fun o0 o1 o2 o3 hc => by
    obtain ⟨hok, q, hq⟩ := hc.ok
    exact ⟨hok, conv_sub (by rw [← Int.mul_one (val64 [o0, o1, o2, o3])]; exact hq)⟩)
end Go.Sx
