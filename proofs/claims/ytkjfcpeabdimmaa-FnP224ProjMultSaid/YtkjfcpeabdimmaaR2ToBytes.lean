import Derived.Test.YtkjfcpeabdimmaaBaseLimb
set_option linter.unusedVariables false
set_option linter.unusedSimpArgs false
set_option linter.constructorNameAsVariable false
namespace Go.Sx
open Go.Proofs
def toBytes_stmt : Prop :=
  ∀ x0 x1 x2 x3 : Int,
  0 ≤ x0 → x0 ≤ 18446744073709551615 →
  0 ≤ x1 → x1 ≤ 18446744073709551615 →
  0 ≤ x2 → x2 ≤ 18446744073709551615 →
  0 ≤ x3 → x3 ≤ 18446744073709551615 →
  (relsF 2).pre [x0, x1, x2, x3] →
  ∀ r4 : Int, r4 = IntKind.u8.wrap x0 →
  ∀ r5 : Int, r5 = binFn .and .u8 r4 255 →
  ∀ r6 : Int, r6 = binFn .shr .u64 x0 8 →
  ∀ r7 : Int, r7 = IntKind.u8.wrap r6 →
  ∀ r8 : Int, r8 = binFn .and .u8 r7 255 →
  ∀ r9 : Int, r9 = binFn .shr .u64 r6 8 →
  ∀ r10 : Int, r10 = IntKind.u8.wrap r9 →
  ∀ r11 : Int, r11 = binFn .and .u8 r10 255 →
  ∀ r12 : Int, r12 = binFn .shr .u64 r9 8 →
  ∀ r13 : Int, r13 = IntKind.u8.wrap r12 →
  ∀ r14 : Int, r14 = binFn .and .u8 r13 255 →
  ∀ r15 : Int, r15 = binFn .shr .u64 r12 8 →
  ∀ r16 : Int, r16 = IntKind.u8.wrap r15 →
  ∀ r17 : Int, r17 = binFn .and .u8 r16 255 →
  ∀ r18 : Int, r18 = binFn .shr .u64 r15 8 →
  ∀ r19 : Int, r19 = IntKind.u8.wrap r18 →
  ∀ r20 : Int, r20 = binFn .and .u8 r19 255 →
  ∀ r21 : Int, r21 = binFn .shr .u64 r18 8 →
  ∀ r22 : Int, r22 = IntKind.u8.wrap r21 →
  ∀ r23 : Int, r23 = binFn .and .u8 r22 255 →
  ∀ r24 : Int, r24 = binFn .shr .u64 r21 8 →
  ∀ r25 : Int, r25 = IntKind.u8.wrap r24 →
  ∀ r26 : Int, r26 = IntKind.u8.wrap x1 →
  ∀ r27 : Int, r27 = binFn .and .u8 r26 255 →
  ∀ r28 : Int, r28 = binFn .shr .u64 x1 8 →
  ∀ r29 : Int, r29 = IntKind.u8.wrap r28 →
  ∀ r30 : Int, r30 = binFn .and .u8 r29 255 →
  ∀ r31 : Int, r31 = binFn .shr .u64 r28 8 →
  ∀ r32 : Int, r32 = IntKind.u8.wrap r31 →
  ∀ r33 : Int, r33 = binFn .and .u8 r32 255 →
  ∀ r34 : Int, r34 = binFn .shr .u64 r31 8 →
  ∀ r35 : Int, r35 = IntKind.u8.wrap r34 →
  ∀ r36 : Int, r36 = binFn .and .u8 r35 255 →
  ∀ r37 : Int, r37 = binFn .shr .u64 r34 8 →
  ∀ r38 : Int, r38 = IntKind.u8.wrap r37 →
  ∀ r39 : Int, r39 = binFn .and .u8 r38 255 →
  ∀ r40 : Int, r40 = binFn .shr .u64 r37 8 →
  ∀ r41 : Int, r41 = IntKind.u8.wrap r40 →
  ∀ r42 : Int, r42 = binFn .and .u8 r41 255 →
  ∀ r43 : Int, r43 = binFn .shr .u64 r40 8 →
  ∀ r44 : Int, r44 = IntKind.u8.wrap r43 →
  ∀ r45 : Int, r45 = binFn .and .u8 r44 255 →
  ∀ r46 : Int, r46 = binFn .shr .u64 r43 8 →
  ∀ r47 : Int, r47 = IntKind.u8.wrap r46 →
  ∀ r48 : Int, r48 = IntKind.u8.wrap x2 →
  ∀ r49 : Int, r49 = binFn .and .u8 r48 255 →
  ∀ r50 : Int, r50 = binFn .shr .u64 x2 8 →
  ∀ r51 : Int, r51 = IntKind.u8.wrap r50 →
  ∀ r52 : Int, r52 = binFn .and .u8 r51 255 →
  ∀ r53 : Int, r53 = binFn .shr .u64 r50 8 →
  ∀ r54 : Int, r54 = IntKind.u8.wrap r53 →
  ∀ r55 : Int, r55 = binFn .and .u8 r54 255 →
  ∀ r56 : Int, r56 = binFn .shr .u64 r53 8 →
  ∀ r57 : Int, r57 = IntKind.u8.wrap r56 →
  ∀ r58 : Int, r58 = binFn .and .u8 r57 255 →
  ∀ r59 : Int, r59 = binFn .shr .u64 r56 8 →
  ∀ r60 : Int, r60 = IntKind.u8.wrap r59 →
  ∀ r61 : Int, r61 = binFn .and .u8 r60 255 →
  ∀ r62 : Int, r62 = binFn .shr .u64 r59 8 →
  ∀ r63 : Int, r63 = IntKind.u8.wrap r62 →
  ∀ r64 : Int, r64 = binFn .and .u8 r63 255 →
  ∀ r65 : Int, r65 = binFn .shr .u64 r62 8 →
  ∀ r66 : Int, r66 = IntKind.u8.wrap r65 →
  ∀ r67 : Int, r67 = binFn .and .u8 r66 255 →
  ∀ r68 : Int, r68 = binFn .shr .u64 r65 8 →
  ∀ r69 : Int, r69 = IntKind.u8.wrap r68 →
  ∀ r70 : Int, r70 = IntKind.u8.wrap x3 →
  ∀ r71 : Int, r71 = binFn .and .u8 r70 255 →
  ∀ r72 : Int, r72 = binFn .shr .u64 x3 8 →
  ∀ r73 : Int, r73 = IntKind.u8.wrap r72 →
  ∀ r74 : Int, r74 = binFn .and .u8 r73 255 →
  ∀ r75 : Int, r75 = binFn .shr .u64 r72 8 →
  ∀ r76 : Int, r76 = IntKind.u8.wrap r75 →
  ∀ r77 : Int, r77 = binFn .and .u8 r76 255 →
  ∀ r78 : Int, r78 = binFn .shr .u64 r75 8 →
  ∀ r79 : Int, r79 = IntKind.u8.wrap r78 →
  (relsF 2).post [x0, x1, x2, x3] [r5, r8, r11, r14, r17, r20, r23, r25, r27, r30, r33, r36, r39, r42, r45, r47, r49, r52, r55, r58, r61, r64, r67, r69, r71, r74, r77, r79]

theorem toBytes_cond : Can.cond canToBytes Try.prog X2 [] relsF 115 0 = toBytes_stmt := by kernel_rfl

theorem split256 {x m b t : Int} (h0 : 0 ≤ x) (h1 : x ≤ 256 * m + 255) (e : b = x % 256) (g : t = x / 256) : 0 ≤ t ∧ t ≤ m ∧ 0 ≤ b ∧ b < 256 ∧ x = b + 256 * t := by omega
theorem bytes8 {x a0 b0 t1 a1 b1 t2 a2 b2 t3 a3 b3 t4 a4 b4 t5 a5 b5 t6 a6 b6 t7 b7 : Int} (h0 : 0 ≤ x) (h1 : x ≤ 18446744073709551615)
    (e0 : a0 = x % 256) (f0 : b0 = a0 % 256) (g1 : t1 = x / 256) (e1 : a1 = t1 % 256) (f1 : b1 = a1 % 256) (g2 : t2 = t1 / 256) (e2 : a2 = t2 % 256) (f2 : b2 = a2 % 256) (g3 : t3 = t2 / 256) (e3 : a3 = t3 % 256) (f3 : b3 = a3 % 256) (g4 : t4 = t3 / 256) (e4 : a4 = t4 % 256) (f4 : b4 = a4 % 256) (g5 : t5 = t4 / 256) (e5 : a5 = t5 % 256) (f5 : b5 = a5 % 256) (g6 : t6 = t5 / 256) (e6 : a6 = t6 % 256) (f6 : b6 = a6 % 256) (g7 : t7 = t6 / 256) (f7 : b7 = t7 % 256) :
    rng 256 [b0, b1, b2, b3, b4, b5, b6, b7] ∧ valL 256 [b0, b1, b2, b3, b4, b5, b6, b7] = x := by
  have k0 : b0 = x % 256 := by rw [f0, e0, Int.emod_emod]
  have s0 := split256 h0 (m := 72057594037927935) (by omega) k0 g1
  have k1 : b1 = t1 % 256 := by rw [f1, e1, Int.emod_emod]
  have s1 := split256 s0.1 (m := 281474976710655) (by omega) k1 g2
  have k2 : b2 = t2 % 256 := by rw [f2, e2, Int.emod_emod]
  have s2 := split256 s1.1 (m := 1099511627775) (by omega) k2 g3
  have k3 : b3 = t3 % 256 := by rw [f3, e3, Int.emod_emod]
  have s3 := split256 s2.1 (m := 4294967295) (by omega) k3 g4
  have k4 : b4 = t4 % 256 := by rw [f4, e4, Int.emod_emod]
  have s4 := split256 s3.1 (m := 16777215) (by omega) k4 g5
  have k5 : b5 = t5 % 256 := by rw [f5, e5, Int.emod_emod]
  have s5 := split256 s4.1 (m := 65535) (by omega) k5 g6
  have k6 : b6 = t6 % 256 := by rw [f6, e6, Int.emod_emod]
  have s6 := split256 s5.1 (m := 255) (by omega) k6 g7
  have z : b7 = t7 := by rw [f7]; exact Int.emod_eq_of_lt s6.1 (by have := s6.2.1; omega)
  clear e0 f0 g1 k0 e1 f1 g2 k1 e2 f2 g3 k2 e3 f3 g4 k3 e4 f4 g5 k4 e5 f5 g6 k5 e6 f6 g7 k6 f7
  refine ⟨?_, ?_⟩
  · simp only [rng, and_true]; omega
  · simp only [valL]; omega
theorem bytes4 {x a0 b0 t1 a1 b1 t2 a2 b2 t3 b3 : Int} (h0 : 0 ≤ x) (h1 : x ≤ 4294967295)
    (e0 : a0 = x % 256) (f0 : b0 = a0 % 256) (g1 : t1 = x / 256) (e1 : a1 = t1 % 256) (f1 : b1 = a1 % 256) (g2 : t2 = t1 / 256) (e2 : a2 = t2 % 256) (f2 : b2 = a2 % 256) (g3 : t3 = t2 / 256) (f3 : b3 = t3 % 256) :
    rng 256 [b0, b1, b2, b3] ∧ valL 256 [b0, b1, b2, b3] = x := by
  have k0 : b0 = x % 256 := by rw [f0, e0, Int.emod_emod]
  have s0 := split256 h0 (m := 16777215) (by omega) k0 g1
  have k1 : b1 = t1 % 256 := by rw [f1, e1, Int.emod_emod]
  have s1 := split256 s0.1 (m := 65535) (by omega) k1 g2
  have k2 : b2 = t2 % 256 := by rw [f2, e2, Int.emod_emod]
  have s2 := split256 s1.1 (m := 255) (by omega) k2 g3
  have z : b3 = t3 := by rw [f3]; exact Int.emod_eq_of_lt s2.1 (by have := s2.2.1; omega)
  clear e0 f0 g1 k0 e1 f1 g2 k1 e2 f2 g3 k2 f3
  refine ⟨?_, ?_⟩
  · simp only [rng, and_true]; omega
  · simp only [valL]; omega

theorem toBytes_law : toBytes_stmt := by
  intro x0 x1 x2 x3 a0 a0' a1 a1' a2 a2' a3 a3' hp r4 e4 r5 e5 r6 e6 r7 e7 r8 e8 r9 e9 r10 e10 r11 e11 r12 e12 r13 e13 r14 e14 r15 e15 r16 e16 r17 e17 r18 e18 r19 e19 r20 e20 r21 e21 r22 e22 r23 e23 r24 e24 r25 e25 r26 e26 r27 e27 r28 e28 r29 e29 r30 e30 r31 e31 r32 e32 r33 e33 r34 e34 r35 e35 r36 e36 r37 e37 r38 e38 r39 e39 r40 e40 r41 e41 r42 e42 r43 e43 r44 e44 r45 e45 r46 e46 r47 e47 r48 e48 r49 e49 r50 e50 r51 e51 r52 e52 r53 e53 r54 e54 r55 e55 r56 e56 r57 e57 r58 e58 r59 e59 r60 e60 r61 e61 r62 e62 r63 e63 r64 e64 r65 e65 r66 e66 r67 e67 r68 e68 r69 e69 r70 e70 r71 e71 r72 e72 r73 e73 r74 e74 r75 e75 r76 e76 r77 e77 r78 e78 r79 e79
  simp only [and_u8_8, shr_u64_8, wrap_u8] at *
  have hp' : val64 [x0, x1, x2, x3] < 26959946667150639794667015087019630673557916260026308143510066298881 := hp
  have h3 : x3 ≤ 4294967295 := by simp only [val64, valL] at hp'; omega
  have l0 := bytes8 a0 a0' e4 e5 e6 e7 e8 e9 e10 e11 e12 e13 e14 e15 e16 e17 e18 e19 e20 e21 e22 e23 e24 e25
  have l1 := bytes8 a1 a1' e26 e27 e28 e29 e30 e31 e32 e33 e34 e35 e36 e37 e38 e39 e40 e41 e42 e43 e44 e45 e46 e47
  have l2 := bytes8 a2 a2' e48 e49 e50 e51 e52 e53 e54 e55 e56 e57 e58 e59 e60 e61 e62 e63 e64 e65 e66 e67 e68 e69
  have l3 := bytes4 a3 h3 e70 e71 e72 e73 e74 e75 e76 e77 e78 e79
  clear e4 e5 e6 e7 e8 e9 e10 e11 e12 e13 e14 e15 e16 e17 e18 e19 e20 e21 e22 e23 e24 e25 e26 e27 e28 e29 e30 e31 e32 e33 e34 e35 e36 e37 e38 e39 e40 e41 e42 e43 e44 e45 e46 e47 e48 e49 e50 e51 e52 e53 e54 e55 e56 e57 e58 e59 e60 e61 e62 e63 e64 e65 e66 e67 e68 e69 e70 e71 e72 e73 e74 e75 e76 e77 e78 e79
  refine ⟨?_, ?_⟩
  · simp only [rng, and_true] at l0 l1 l2 l3 ⊢
    exact ⟨l0.1.1, l0.1.2.1, by omega⟩
  · simp only [valL] at l0 l1 l2 l3
    simp only [val64, valL]
    omega

theorem toBytes_ok : ConOk Try.prog relsF 115 canToBytes.con := can_of_cond hX2 hm2 (tab := []) (by intro f con h; cases h) 0 (by decide) (by rw [toBytes_cond]; exact toBytes_law)
end Go.Sx
