import Derived.Test.YtkjfcpeabdimmaaBaseLimb
set_option linter.unusedVariables false
set_option linter.unusedSimpArgs false
set_option linter.constructorNameAsVariable false
set_option maxRecDepth 10000
set_option maxHeartbeats 4000000
namespace Go.Sx
open Go.Proofs
def fromBytes_stmt : Prop :=
  ∀ x0 x1 x2 x3 x4 x5 x6 x7 x8 x9 x10 x11 x12 x13 x14 x15 x16 x17 x18 x19 x20 x21 x22 x23 x24 x25 x26 x27 : Int,
  0 ≤ x0 → x0 ≤ 255 →
  0 ≤ x1 → x1 ≤ 255 →
  0 ≤ x2 → x2 ≤ 255 →
  0 ≤ x3 → x3 ≤ 255 →
  0 ≤ x4 → x4 ≤ 255 →
  0 ≤ x5 → x5 ≤ 255 →
  0 ≤ x6 → x6 ≤ 255 →
  0 ≤ x7 → x7 ≤ 255 →
  0 ≤ x8 → x8 ≤ 255 →
  0 ≤ x9 → x9 ≤ 255 →
  0 ≤ x10 → x10 ≤ 255 →
  0 ≤ x11 → x11 ≤ 255 →
  0 ≤ x12 → x12 ≤ 255 →
  0 ≤ x13 → x13 ≤ 255 →
  0 ≤ x14 → x14 ≤ 255 →
  0 ≤ x15 → x15 ≤ 255 →
  0 ≤ x16 → x16 ≤ 255 →
  0 ≤ x17 → x17 ≤ 255 →
  0 ≤ x18 → x18 ≤ 255 →
  0 ≤ x19 → x19 ≤ 255 →
  0 ≤ x20 → x20 ≤ 255 →
  0 ≤ x21 → x21 ≤ 255 →
  0 ≤ x22 → x22 ≤ 255 →
  0 ≤ x23 → x23 ≤ 255 →
  0 ≤ x24 → x24 ≤ 255 →
  0 ≤ x25 → x25 ≤ 255 →
  0 ≤ x26 → x26 ≤ 255 →
  0 ≤ x27 → x27 ≤ 255 →
  (relsF 1).pre [x0, x1, x2, x3, x4, x5, x6, x7, x8, x9, x10, x11, x12, x13, x14, x15, x16, x17, x18, x19, x20, x21, x22, x23, x24, x25, x26, x27] →
  ∀ r28 : Int, r28 = IntKind.u64.wrap x27 →
  ∀ r29 : Int, r29 = binFn .shl .u64 r28 24 →
  ∀ r30 : Int, r30 = IntKind.u64.wrap x26 →
  ∀ r31 : Int, r31 = binFn .shl .u64 r30 16 →
  ∀ r32 : Int, r32 = IntKind.u64.wrap x25 →
  ∀ r33 : Int, r33 = binFn .shl .u64 r32 8 →
  ∀ r34 : Int, r34 = IntKind.u64.wrap x23 →
  ∀ r35 : Int, r35 = binFn .shl .u64 r34 56 →
  ∀ r36 : Int, r36 = IntKind.u64.wrap x22 →
  ∀ r37 : Int, r37 = binFn .shl .u64 r36 48 →
  ∀ r38 : Int, r38 = IntKind.u64.wrap x21 →
  ∀ r39 : Int, r39 = binFn .shl .u64 r38 40 →
  ∀ r40 : Int, r40 = IntKind.u64.wrap x20 →
  ∀ r41 : Int, r41 = binFn .shl .u64 r40 32 →
  ∀ r42 : Int, r42 = IntKind.u64.wrap x19 →
  ∀ r43 : Int, r43 = binFn .shl .u64 r42 24 →
  ∀ r44 : Int, r44 = IntKind.u64.wrap x18 →
  ∀ r45 : Int, r45 = binFn .shl .u64 r44 16 →
  ∀ r46 : Int, r46 = IntKind.u64.wrap x17 →
  ∀ r47 : Int, r47 = binFn .shl .u64 r46 8 →
  ∀ r48 : Int, r48 = IntKind.u64.wrap x15 →
  ∀ r49 : Int, r49 = binFn .shl .u64 r48 56 →
  ∀ r50 : Int, r50 = IntKind.u64.wrap x14 →
  ∀ r51 : Int, r51 = binFn .shl .u64 r50 48 →
  ∀ r52 : Int, r52 = IntKind.u64.wrap x13 →
  ∀ r53 : Int, r53 = binFn .shl .u64 r52 40 →
  ∀ r54 : Int, r54 = IntKind.u64.wrap x12 →
  ∀ r55 : Int, r55 = binFn .shl .u64 r54 32 →
  ∀ r56 : Int, r56 = IntKind.u64.wrap x11 →
  ∀ r57 : Int, r57 = binFn .shl .u64 r56 24 →
  ∀ r58 : Int, r58 = IntKind.u64.wrap x10 →
  ∀ r59 : Int, r59 = binFn .shl .u64 r58 16 →
  ∀ r60 : Int, r60 = IntKind.u64.wrap x9 →
  ∀ r61 : Int, r61 = binFn .shl .u64 r60 8 →
  ∀ r62 : Int, r62 = IntKind.u64.wrap x7 →
  ∀ r63 : Int, r63 = binFn .shl .u64 r62 56 →
  ∀ r64 : Int, r64 = IntKind.u64.wrap x6 →
  ∀ r65 : Int, r65 = binFn .shl .u64 r64 48 →
  ∀ r66 : Int, r66 = IntKind.u64.wrap x5 →
  ∀ r67 : Int, r67 = binFn .shl .u64 r66 40 →
  ∀ r68 : Int, r68 = IntKind.u64.wrap x4 →
  ∀ r69 : Int, r69 = binFn .shl .u64 r68 32 →
  ∀ r70 : Int, r70 = IntKind.u64.wrap x3 →
  ∀ r71 : Int, r71 = binFn .shl .u64 r70 24 →
  ∀ r72 : Int, r72 = IntKind.u64.wrap x2 →
  ∀ r73 : Int, r73 = binFn .shl .u64 r72 16 →
  ∀ r74 : Int, r74 = IntKind.u64.wrap x1 →
  ∀ r75 : Int, r75 = binFn .shl .u64 r74 8 →
  ∀ r76 : Int, r76 = IntKind.u64.wrap x0 →
  ∀ r77 : Int, r77 = binFn .add .u64 r75 r76 →
  ∀ r78 : Int, r78 = binFn .add .u64 r73 r77 →
  ∀ r79 : Int, r79 = binFn .add .u64 r71 r78 →
  ∀ r80 : Int, r80 = binFn .add .u64 r69 r79 →
  ∀ r81 : Int, r81 = binFn .add .u64 r67 r80 →
  ∀ r82 : Int, r82 = binFn .add .u64 r65 r81 →
  ∀ r83 : Int, r83 = binFn .add .u64 r63 r82 →
  ∀ r84 : Int, r84 = IntKind.u64.wrap x8 →
  ∀ r85 : Int, r85 = binFn .add .u64 r61 r84 →
  ∀ r86 : Int, r86 = binFn .add .u64 r59 r85 →
  ∀ r87 : Int, r87 = binFn .add .u64 r57 r86 →
  ∀ r88 : Int, r88 = binFn .add .u64 r55 r87 →
  ∀ r89 : Int, r89 = binFn .add .u64 r53 r88 →
  ∀ r90 : Int, r90 = binFn .add .u64 r51 r89 →
  ∀ r91 : Int, r91 = binFn .add .u64 r49 r90 →
  ∀ r92 : Int, r92 = IntKind.u64.wrap x16 →
  ∀ r93 : Int, r93 = binFn .add .u64 r47 r92 →
  ∀ r94 : Int, r94 = binFn .add .u64 r45 r93 →
  ∀ r95 : Int, r95 = binFn .add .u64 r43 r94 →
  ∀ r96 : Int, r96 = binFn .add .u64 r41 r95 →
  ∀ r97 : Int, r97 = binFn .add .u64 r39 r96 →
  ∀ r98 : Int, r98 = binFn .add .u64 r37 r97 →
  ∀ r99 : Int, r99 = binFn .add .u64 r35 r98 →
  ∀ r100 : Int, r100 = IntKind.u64.wrap x24 →
  ∀ r101 : Int, r101 = binFn .add .u64 r33 r100 →
  ∀ r102 : Int, r102 = binFn .add .u64 r31 r101 →
  ∀ r103 : Int, r103 = binFn .add .u64 r29 r102 →
  (relsF 1).post [x0, x1, x2, x3, x4, x5, x6, x7, x8, x9, x10, x11, x12, x13, x14, x15, x16, x17, x18, x19, x20, x21, x22, x23, x24, x25, x26, x27] [r83, r91, r99, r103]

theorem fromBytes_cond : Can.cond canFromBytes Try.prog X2 [] relsF 96 0 = fromBytes_stmt := by kernel_rfl

theorem fromBytes_law : fromBytes_stmt := by
  intro x0 x1 x2 x3 x4 x5 x6 x7 x8 x9 x10 x11 x12 x13 x14 x15 x16 x17 x18 x19 x20 x21 x22 x23 x24 x25 x26 x27 a0 b0 a1 b1 a2 b2 a3 b3 a4 b4 a5 b5 a6 b6 a7 b7 a8 b8 a9 b9 a10 b10 a11 b11 a12 b12 a13 b13 a14 b14 a15 b15 a16 b16 a17 b17 a18 b18 a19 b19 a20 b20 a21 b21 a22 b22 a23 b23 a24 b24 a25 b25 a26 b26 a27 b27 _ r28 e28 r29 e29 r30 e30 r31 e31 r32 e32 r33 e33 r34 e34 r35 e35 r36 e36 r37 e37 r38 e38 r39 e39 r40 e40 r41 e41 r42 e42 r43 e43 r44 e44 r45 e45 r46 e46 r47 e47 r48 e48 r49 e49 r50 e50 r51 e51 r52 e52 r53 e53 r54 e54 r55 e55 r56 e56 r57 e57 r58 e58 r59 e59 r60 e60 r61 e61 r62 e62 r63 e63 r64 e64 r65 e65 r66 e66 r67 e67 r68 e68 r69 e69 r70 e70 r71 e71 r72 e72 r73 e73 r74 e74 r75 e75 r76 e76 r77 e77 r78 e78 r79 e79 r80 e80 r81 e81 r82 e82 r83 e83 r84 e84 r85 e85 r86 e86 r87 e87 r88 e88 r89 e89 r90 e90 r91 e91 r92 e92 r93 e93 r94 e94 r95 e95 r96 e96 r97 e97 r98 e98 r99 e99 r100 e100 r101 e101 r102 e102 r103 e103
  have q28 : r28 = x27 := by rw [e28]; exact wrap_byte a27 b27
  have q29 : r29 = 16777216 * x27 := by rw [e29, e28]; exact shl_byte_24 a27 b27
  have q30 : r30 = x26 := by rw [e30]; exact wrap_byte a26 b26
  have q31 : r31 = 65536 * x26 := by rw [e31, e30]; exact shl_byte_16 a26 b26
  have q32 : r32 = x25 := by rw [e32]; exact wrap_byte a25 b25
  have q33 : r33 = 256 * x25 := by rw [e33, e32]; exact shl_byte_8 a25 b25
  have q34 : r34 = x23 := by rw [e34]; exact wrap_byte a23 b23
  have q35 : r35 = 72057594037927936 * x23 := by rw [e35, e34]; exact shl_byte_56 a23 b23
  have q36 : r36 = x22 := by rw [e36]; exact wrap_byte a22 b22
  have q37 : r37 = 281474976710656 * x22 := by rw [e37, e36]; exact shl_byte_48 a22 b22
  have q38 : r38 = x21 := by rw [e38]; exact wrap_byte a21 b21
  have q39 : r39 = 1099511627776 * x21 := by rw [e39, e38]; exact shl_byte_40 a21 b21
  have q40 : r40 = x20 := by rw [e40]; exact wrap_byte a20 b20
  have q41 : r41 = 4294967296 * x20 := by rw [e41, e40]; exact shl_byte_32 a20 b20
  have q42 : r42 = x19 := by rw [e42]; exact wrap_byte a19 b19
  have q43 : r43 = 16777216 * x19 := by rw [e43, e42]; exact shl_byte_24 a19 b19
  have q44 : r44 = x18 := by rw [e44]; exact wrap_byte a18 b18
  have q45 : r45 = 65536 * x18 := by rw [e45, e44]; exact shl_byte_16 a18 b18
  have q46 : r46 = x17 := by rw [e46]; exact wrap_byte a17 b17
  have q47 : r47 = 256 * x17 := by rw [e47, e46]; exact shl_byte_8 a17 b17
  have q48 : r48 = x15 := by rw [e48]; exact wrap_byte a15 b15
  have q49 : r49 = 72057594037927936 * x15 := by rw [e49, e48]; exact shl_byte_56 a15 b15
  have q50 : r50 = x14 := by rw [e50]; exact wrap_byte a14 b14
  have q51 : r51 = 281474976710656 * x14 := by rw [e51, e50]; exact shl_byte_48 a14 b14
  have q52 : r52 = x13 := by rw [e52]; exact wrap_byte a13 b13
  have q53 : r53 = 1099511627776 * x13 := by rw [e53, e52]; exact shl_byte_40 a13 b13
  have q54 : r54 = x12 := by rw [e54]; exact wrap_byte a12 b12
  have q55 : r55 = 4294967296 * x12 := by rw [e55, e54]; exact shl_byte_32 a12 b12
  have q56 : r56 = x11 := by rw [e56]; exact wrap_byte a11 b11
  have q57 : r57 = 16777216 * x11 := by rw [e57, e56]; exact shl_byte_24 a11 b11
  have q58 : r58 = x10 := by rw [e58]; exact wrap_byte a10 b10
  have q59 : r59 = 65536 * x10 := by rw [e59, e58]; exact shl_byte_16 a10 b10
  have q60 : r60 = x9 := by rw [e60]; exact wrap_byte a9 b9
  have q61 : r61 = 256 * x9 := by rw [e61, e60]; exact shl_byte_8 a9 b9
  have q62 : r62 = x7 := by rw [e62]; exact wrap_byte a7 b7
  have q63 : r63 = 72057594037927936 * x7 := by rw [e63, e62]; exact shl_byte_56 a7 b7
  have q64 : r64 = x6 := by rw [e64]; exact wrap_byte a6 b6
  have q65 : r65 = 281474976710656 * x6 := by rw [e65, e64]; exact shl_byte_48 a6 b6
  have q66 : r66 = x5 := by rw [e66]; exact wrap_byte a5 b5
  have q67 : r67 = 1099511627776 * x5 := by rw [e67, e66]; exact shl_byte_40 a5 b5
  have q68 : r68 = x4 := by rw [e68]; exact wrap_byte a4 b4
  have q69 : r69 = 4294967296 * x4 := by rw [e69, e68]; exact shl_byte_32 a4 b4
  have q70 : r70 = x3 := by rw [e70]; exact wrap_byte a3 b3
  have q71 : r71 = 16777216 * x3 := by rw [e71, e70]; exact shl_byte_24 a3 b3
  have q72 : r72 = x2 := by rw [e72]; exact wrap_byte a2 b2
  have q73 : r73 = 65536 * x2 := by rw [e73, e72]; exact shl_byte_16 a2 b2
  have q74 : r74 = x1 := by rw [e74]; exact wrap_byte a1 b1
  have q75 : r75 = 256 * x1 := by rw [e75, e74]; exact shl_byte_8 a1 b1
  have q76 : r76 = x0 := by rw [e76]; exact wrap_byte a0 b0
  have q84 : r84 = x8 := by rw [e84]; exact wrap_byte a8 b8
  have q92 : r92 = x16 := by rw [e92]; exact wrap_byte a16 b16
  have q100 : r100 = x24 := by rw [e100]; exact wrap_byte a24 b24
  clear e28 e29 e30 e31 e32 e33 e34 e35 e36 e37 e38 e39 e40 e41 e42 e43 e44 e45 e46 e47 e48 e49 e50 e51 e52 e53 e54 e55 e56 e57 e58 e59 e60 e61 e62 e63 e64 e65 e66 e67 e68 e69 e70 e71 e72 e73 e74 e75 e76 e84 e92 e100
  have q77 : r77 = r75 + r76 := by rw [e77]; exact add_small (by omega) (by omega)
  clear e77
  have q78 : r78 = r73 + r77 := by rw [e78]; exact add_small (by omega) (by omega)
  clear e78
  have q79 : r79 = r71 + r78 := by rw [e79]; exact add_small (by omega) (by omega)
  clear e79
  have q80 : r80 = r69 + r79 := by rw [e80]; exact add_small (by omega) (by omega)
  clear e80
  have q81 : r81 = r67 + r80 := by rw [e81]; exact add_small (by omega) (by omega)
  clear e81
  have q82 : r82 = r65 + r81 := by rw [e82]; exact add_small (by omega) (by omega)
  clear e82
  have q83 : r83 = r63 + r82 := by rw [e83]; exact add_small (by omega) (by omega)
  clear e83
  have q85 : r85 = r61 + r84 := by rw [e85]; exact add_small (by omega) (by omega)
  clear e85
  have q86 : r86 = r59 + r85 := by rw [e86]; exact add_small (by omega) (by omega)
  clear e86
  have q87 : r87 = r57 + r86 := by rw [e87]; exact add_small (by omega) (by omega)
  clear e87
  have q88 : r88 = r55 + r87 := by rw [e88]; exact add_small (by omega) (by omega)
  clear e88
  have q89 : r89 = r53 + r88 := by rw [e89]; exact add_small (by omega) (by omega)
  clear e89
  have q90 : r90 = r51 + r89 := by rw [e90]; exact add_small (by omega) (by omega)
  clear e90
  have q91 : r91 = r49 + r90 := by rw [e91]; exact add_small (by omega) (by omega)
  clear e91
  have q93 : r93 = r47 + r92 := by rw [e93]; exact add_small (by omega) (by omega)
  clear e93
  have q94 : r94 = r45 + r93 := by rw [e94]; exact add_small (by omega) (by omega)
  clear e94
  have q95 : r95 = r43 + r94 := by rw [e95]; exact add_small (by omega) (by omega)
  clear e95
  have q96 : r96 = r41 + r95 := by rw [e96]; exact add_small (by omega) (by omega)
  clear e96
  have q97 : r97 = r39 + r96 := by rw [e97]; exact add_small (by omega) (by omega)
  clear e97
  have q98 : r98 = r37 + r97 := by rw [e98]; exact add_small (by omega) (by omega)
  clear e98
  have q99 : r99 = r35 + r98 := by rw [e99]; exact add_small (by omega) (by omega)
  clear e99
  have q101 : r101 = r33 + r100 := by rw [e101]; exact add_small (by omega) (by omega)
  clear e101
  have q102 : r102 = r31 + r101 := by rw [e102]; exact add_small (by omega) (by omega)
  clear e102
  have q103 : r103 = r29 + r102 := by rw [e103]; exact add_small (by omega) (by omega)
  clear e103
  refine ⟨?_, ?_⟩
  · simp only [Go.Sx.r64, rng, and_true]
    simp only [q28, q29, q30, q31, q32, q33, q34, q35, q36, q37, q38, q39, q40, q41, q42, q43, q44, q45, q46, q47, q48, q49, q50, q51, q52, q53, q54, q55, q56, q57, q58, q59, q60, q61, q62, q63, q64, q65, q66, q67, q68, q69, q70, q71, q72, q73, q74, q75, q76, q77, q78, q79, q80, q81, q82, q83, q84, q85, q86, q87, q88, q89, q90, q91, q92, q93, q94, q95, q96, q97, q98, q99, q100, q101, q102, q103]
    clear q28 q29 q30 q31 q32 q33 q34 q35 q36 q37 q38 q39 q40 q41 q42 q43 q44 q45 q46 q47 q48 q49 q50 q51 q52 q53 q54 q55 q56 q57 q58 q59 q60 q61 q62 q63 q64 q65 q66 q67 q68 q69 q70 q71 q72 q73 q74 q75 q76 q77 q78 q79 q80 q81 q82 q83 q84 q85 q86 q87 q88 q89 q90 q91 q92 q93 q94 q95 q96 q97 q98 q99 q100 q101 q102 q103
    refine ⟨?_, ?_, ?_, ?_, ?_, ?_, ?_, ?_⟩ <;> omega
  · show val64 [r83, r91, r99, r103] = valL 256 _
    simp only [val64, valL]
    simp only [q28, q29, q30, q31, q32, q33, q34, q35, q36, q37, q38, q39, q40, q41, q42, q43, q44, q45, q46, q47, q48, q49, q50, q51, q52, q53, q54, q55, q56, q57, q58, q59, q60, q61, q62, q63, q64, q65, q66, q67, q68, q69, q70, q71, q72, q73, q74, q75, q76, q77, q78, q79, q80, q81, q82, q83, q84, q85, q86, q87, q88, q89, q90, q91, q92, q93, q94, q95, q96, q97, q98, q99, q100, q101, q102, q103]
    clear q28 q29 q30 q31 q32 q33 q34 q35 q36 q37 q38 q39 q40 q41 q42 q43 q44 q45 q46 q47 q48 q49 q50 q51 q52 q53 q54 q55 q56 q57 q58 q59 q60 q61 q62 q63 q64 q65 q66 q67 q68 q69 q70 q71 q72 q73 q74 q75 q76 q77 q78 q79 q80 q81 q82 q83 q84 q85 q86 q87 q88 q89 q90 q91 q92 q93 q94 q95 q96 q97 q98 q99 q100 q101 q102 q103
    omega

theorem fromBytes_ok : ConOk Try.prog relsF 96 canFromBytes.con := can_of_cond hX2 hm2 (tab := []) (by intro f con h; cases h) 0 (by decide) (by rw [fromBytes_cond]; exact fromBytes_law)
end Go.Sx
