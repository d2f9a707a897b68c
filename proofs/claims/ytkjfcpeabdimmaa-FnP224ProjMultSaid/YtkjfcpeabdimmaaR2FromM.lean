/- Out of the Montgomery domain. -/
import Derived.Test.YtkjfcpeabdimmaaBaseLimb
set_option linter.unusedVariables false
set_option linter.unusedSimpArgs false
set_option linter.constructorNameAsVariable false
set_option maxRecDepth 100000
set_option maxHeartbeats 4000000
namespace Go.Sx
open Go.Proofs Go.FP Go.EC
def fromm_vc (Q : List Int → Prop) (x0 x1 x2 x3 : Int) : Prop :=
  (relsF 0).pre [x0, 18446744073709551615] ∧ ∀ r4 r5 : Int, (relsF 0).post [x0, 18446744073709551615] [r4, r5] →
  (relsF 0).pre [r5, 4294967295] ∧ ∀ r6 r7 : Int, (relsF 0).post [r5, 4294967295] [r6, r7] →
  (relsF 0).pre [r5, 18446744073709551615] ∧ ∀ r8 r9 : Int, (relsF 0).post [r5, 18446744073709551615] [r8, r9] →
  (relsF 0).pre [r5, 18446744069414584320] ∧ ∀ r10 r11 : Int, (relsF 0).post [r5, 18446744069414584320] [r10, r11] →
  (0 : Int) ≤ 1 ∧ ∀ r12 r13 : Int, r12 = (r10 + r9 + 0) % 18446744073709551616 → r13 = (r10 + r9 + 0) / 18446744073709551616 →
  (r13 : Int) ≤ 1 ∧ ∀ r14 r15 : Int, r14 = (r8 + r7 + r13) % 18446744073709551616 → r15 = (r8 + r7 + r13) / 18446744073709551616 →
  (0 : Int) ≤ 1 ∧ ∀ r16 r17 : Int, r16 = (x0 + r5 + 0) % 18446744073709551616 → r17 = (x0 + r5 + 0) / 18446744073709551616 →
  (r17 : Int) ≤ 1 ∧ ∀ r18 r19 : Int, r18 = (0 + r11 + r17) % 18446744073709551616 → r19 = (0 + r11 + r17) / 18446744073709551616 →
  (r19 : Int) ≤ 1 ∧ ∀ r20 r21 : Int, r20 = (0 + r12 + r19) % 18446744073709551616 → r21 = (0 + r12 + r19) / 18446744073709551616 →
  (r21 : Int) ≤ 1 ∧ ∀ r22 r23 : Int, r22 = (0 + r14 + r21) % 18446744073709551616 → r23 = (0 + r14 + r21) / 18446744073709551616 →
  (0 : Int) ≤ 1 ∧ ∀ r24 r25 : Int, r24 = (r18 + x1 + 0) % 18446744073709551616 → r25 = (r18 + x1 + 0) / 18446744073709551616 →
  (r25 : Int) ≤ 1 ∧ ∀ r26 r27 : Int, r26 = (r20 + 0 + r25) % 18446744073709551616 → r27 = (r20 + 0 + r25) / 18446744073709551616 →
  (r27 : Int) ≤ 1 ∧ ∀ r28 r29 : Int, r28 = (r22 + 0 + r27) % 18446744073709551616 → r29 = (r22 + 0 + r27) / 18446744073709551616 →
  (relsF 0).pre [r24, 18446744073709551615] ∧ ∀ r30 r31 : Int, (relsF 0).post [r24, 18446744073709551615] [r30, r31] →
  (relsF 0).pre [r31, 4294967295] ∧ ∀ r32 r33 : Int, (relsF 0).post [r31, 4294967295] [r32, r33] →
  (relsF 0).pre [r31, 18446744073709551615] ∧ ∀ r34 r35 : Int, (relsF 0).post [r31, 18446744073709551615] [r34, r35] →
  (relsF 0).pre [r31, 18446744069414584320] ∧ ∀ r36 r37 : Int, (relsF 0).post [r31, 18446744069414584320] [r36, r37] →
  (0 : Int) ≤ 1 ∧ ∀ r38 r39 : Int, r38 = (r36 + r35 + 0) % 18446744073709551616 → r39 = (r36 + r35 + 0) / 18446744073709551616 →
  (r39 : Int) ≤ 1 ∧ ∀ r40 r41 : Int, r40 = (r34 + r33 + r39) % 18446744073709551616 → r41 = (r34 + r33 + r39) / 18446744073709551616 →
  (0 : Int) ≤ 1 ∧ ∀ r42 r43 : Int, r42 = (r24 + r31 + 0) % 18446744073709551616 → r43 = (r24 + r31 + 0) / 18446744073709551616 →
  (r43 : Int) ≤ 1 ∧ ∀ r44 r45 : Int, r44 = (r26 + r37 + r43) % 18446744073709551616 → r45 = (r26 + r37 + r43) / 18446744073709551616 →
  (r45 : Int) ≤ 1 ∧ ∀ r46 r47 : Int, r46 = (r28 + r38 + r45) % 18446744073709551616 → r47 = (r28 + r38 + r45) / 18446744073709551616 →
  ∀ r48 : Int, r48 = binFn .add .u64 r15 r6 →
  ∀ r49 : Int, r49 = binFn .add .u64 r23 r48 →
  ∀ r50 : Int, r50 = binFn .add .u64 r29 r49 →
  (r47 : Int) ≤ 1 ∧ ∀ r51 r52 : Int, r51 = (r50 + r40 + r47) % 18446744073709551616 → r52 = (r50 + r40 + r47) / 18446744073709551616 →
  (0 : Int) ≤ 1 ∧ ∀ r53 r54 : Int, r53 = (r44 + x2 + 0) % 18446744073709551616 → r54 = (r44 + x2 + 0) / 18446744073709551616 →
  (r54 : Int) ≤ 1 ∧ ∀ r55 r56 : Int, r55 = (r46 + 0 + r54) % 18446744073709551616 → r56 = (r46 + 0 + r54) / 18446744073709551616 →
  (r56 : Int) ≤ 1 ∧ ∀ r57 r58 : Int, r57 = (r51 + 0 + r56) % 18446744073709551616 → r58 = (r51 + 0 + r56) / 18446744073709551616 →
  (relsF 0).pre [r53, 18446744073709551615] ∧ ∀ r59 r60 : Int, (relsF 0).post [r53, 18446744073709551615] [r59, r60] →
  (relsF 0).pre [r60, 4294967295] ∧ ∀ r61 r62 : Int, (relsF 0).post [r60, 4294967295] [r61, r62] →
  (relsF 0).pre [r60, 18446744073709551615] ∧ ∀ r63 r64 : Int, (relsF 0).post [r60, 18446744073709551615] [r63, r64] →
  (relsF 0).pre [r60, 18446744069414584320] ∧ ∀ r65 r66 : Int, (relsF 0).post [r60, 18446744069414584320] [r65, r66] →
  (0 : Int) ≤ 1 ∧ ∀ r67 r68 : Int, r67 = (r65 + r64 + 0) % 18446744073709551616 → r68 = (r65 + r64 + 0) / 18446744073709551616 →
  (r68 : Int) ≤ 1 ∧ ∀ r69 r70 : Int, r69 = (r63 + r62 + r68) % 18446744073709551616 → r70 = (r63 + r62 + r68) / 18446744073709551616 →
  (0 : Int) ≤ 1 ∧ ∀ r71 r72 : Int, r71 = (r53 + r60 + 0) % 18446744073709551616 → r72 = (r53 + r60 + 0) / 18446744073709551616 →
  (r72 : Int) ≤ 1 ∧ ∀ r73 r74 : Int, r73 = (r55 + r66 + r72) % 18446744073709551616 → r74 = (r55 + r66 + r72) / 18446744073709551616 →
  (r74 : Int) ≤ 1 ∧ ∀ r75 r76 : Int, r75 = (r57 + r67 + r74) % 18446744073709551616 → r76 = (r57 + r67 + r74) / 18446744073709551616 →
  ∀ r77 : Int, r77 = binFn .add .u64 r41 r32 →
  ∀ r78 : Int, r78 = binFn .add .u64 r52 r77 →
  ∀ r79 : Int, r79 = binFn .add .u64 r58 r78 →
  (r76 : Int) ≤ 1 ∧ ∀ r80 r81 : Int, r80 = (r79 + r69 + r76) % 18446744073709551616 → r81 = (r79 + r69 + r76) / 18446744073709551616 →
  (0 : Int) ≤ 1 ∧ ∀ r82 r83 : Int, r82 = (r73 + x3 + 0) % 18446744073709551616 → r83 = (r73 + x3 + 0) / 18446744073709551616 →
  (r83 : Int) ≤ 1 ∧ ∀ r84 r85 : Int, r84 = (r75 + 0 + r83) % 18446744073709551616 → r85 = (r75 + 0 + r83) / 18446744073709551616 →
  (r85 : Int) ≤ 1 ∧ ∀ r86 r87 : Int, r86 = (r80 + 0 + r85) % 18446744073709551616 → r87 = (r80 + 0 + r85) / 18446744073709551616 →
  (relsF 0).pre [r82, 18446744073709551615] ∧ ∀ r88 r89 : Int, (relsF 0).post [r82, 18446744073709551615] [r88, r89] →
  (relsF 0).pre [r89, 4294967295] ∧ ∀ r90 r91 : Int, (relsF 0).post [r89, 4294967295] [r90, r91] →
  (relsF 0).pre [r89, 18446744073709551615] ∧ ∀ r92 r93 : Int, (relsF 0).post [r89, 18446744073709551615] [r92, r93] →
  (relsF 0).pre [r89, 18446744069414584320] ∧ ∀ r94 r95 : Int, (relsF 0).post [r89, 18446744069414584320] [r94, r95] →
  (0 : Int) ≤ 1 ∧ ∀ r96 r97 : Int, r96 = (r94 + r93 + 0) % 18446744073709551616 → r97 = (r94 + r93 + 0) / 18446744073709551616 →
  (r97 : Int) ≤ 1 ∧ ∀ r98 r99 : Int, r98 = (r92 + r91 + r97) % 18446744073709551616 → r99 = (r92 + r91 + r97) / 18446744073709551616 →
  (0 : Int) ≤ 1 ∧ ∀ r100 r101 : Int, r100 = (r82 + r89 + 0) % 18446744073709551616 → r101 = (r82 + r89 + 0) / 18446744073709551616 →
  (r101 : Int) ≤ 1 ∧ ∀ r102 r103 : Int, r102 = (r84 + r95 + r101) % 18446744073709551616 → r103 = (r84 + r95 + r101) / 18446744073709551616 →
  (r103 : Int) ≤ 1 ∧ ∀ r104 r105 : Int, r104 = (r86 + r96 + r103) % 18446744073709551616 → r105 = (r86 + r96 + r103) / 18446744073709551616 →
  ∀ r106 : Int, r106 = binFn .add .u64 r70 r61 →
  ∀ r107 : Int, r107 = binFn .add .u64 r81 r106 →
  ∀ r108 : Int, r108 = binFn .add .u64 r87 r107 →
  (r105 : Int) ≤ 1 ∧ ∀ r109 r110 : Int, r109 = (r108 + r98 + r105) % 18446744073709551616 → r110 = (r108 + r98 + r105) / 18446744073709551616 →
  ∀ r111 : Int, r111 = binFn .add .u64 r99 r90 →
  ∀ r112 : Int, r112 = binFn .add .u64 r110 r111 →
  (0 : Int) ≤ 1 ∧ ∀ r113 r114 : Int, r113 = (r102 - 1 - 0) % 18446744073709551616 → r114 = (if r102 < 1 + 0 then 1 else 0) →
  (r114 : Int) ≤ 1 ∧ ∀ r115 r116 : Int, r115 = (r104 - 18446744069414584320 - r114) % 18446744073709551616 → r116 = (if r104 < 18446744069414584320 + r114 then 1 else 0) →
  (r116 : Int) ≤ 1 ∧ ∀ r117 r118 : Int, r117 = (r109 - 18446744073709551615 - r116) % 18446744073709551616 → r118 = (if r109 < 18446744073709551615 + r116 then 1 else 0) →
  (r118 : Int) ≤ 1 ∧ ∀ r119 r120 : Int, r119 = (r112 - 4294967295 - r118) % 18446744073709551616 → r120 = (if r112 < 4294967295 + r118 then 1 else 0) →
  (r120 : Int) ≤ 1 ∧ ∀ r121 r122 : Int, r121 = (0 - 0 - r120) % 18446744073709551616 → r122 = (if 0 < 0 + r120 then 1 else 0) →
  (relsF 12).pre [r122, r113, r102] ∧ ∀ r123 : Int, (relsF 12).post [r122, r113, r102] [r123] →
  (relsF 12).pre [r122, r115, r104] ∧ ∀ r124 : Int, (relsF 12).post [r122, r115, r104] [r124] →
  (relsF 12).pre [r122, r117, r109] ∧ ∀ r125 : Int, (relsF 12).post [r122, r117, r109] [r125] →
  (relsF 12).pre [r122, r119, r112] ∧ ∀ r126 : Int, (relsF 12).post [r122, r119, r112] [r126] →
  Q [r123, r124, r125, r126]

theorem fromm_sum {x0 x1 x2 x3 r5 r6 r7 r8 r9 r10 r11 r12 r13 r14 r15 r17 r18 r19 r20 r21 r22 r23 r24 r25 r26 r27 r28 r29 r31 r32 r33 r34 r35 r36 r37 r38 r39 r40 r41 r43 r44 r45 r46 r47 r48 r49 r50 r51 r52 r53 r54 r55 r56 r57 r58 r60 r61 r62 r63 r64 r65 r66 r67 r68 r69 r70 r72 r73 r74 r75 r76 r77 r78 r79 r80 r81 r82 r83 r84 r85 r86 r87 r89 r90 r91 r92 r93 r94 r95 r96 r97 r98 r99 r101 r102 r103 r104 r105 r106 r107 r108 r109 r110 r111 r112 : Int}
    (e6 : r6 * 18446744073709551616 + r7 = r5 * 4294967295)
    (e8 : r8 * 18446744073709551616 + r9 = r5 * 18446744073709551615)
    (e10 : r10 * 18446744073709551616 + r11 = r5 * 18446744069414584320)
    (e12 : r10 + r9 + 0 = r12 + 18446744073709551616 * r13)
    (e14 : r8 + r7 + r13 = r14 + 18446744073709551616 * r15)
    (e16 : x0 + r5 + 0 = 0 + 18446744073709551616 * r17)
    (e18 : 0 + r11 + r17 = r18 + 18446744073709551616 * r19)
    (e20 : 0 + r12 + r19 = r20 + 18446744073709551616 * r21)
    (e22 : 0 + r14 + r21 = r22 + 18446744073709551616 * r23)
    (e24 : r18 + x1 + 0 = r24 + 18446744073709551616 * r25)
    (e26 : r20 + 0 + r25 = r26 + 18446744073709551616 * r27)
    (e28 : r22 + 0 + r27 = r28 + 18446744073709551616 * r29)
    (e32 : r32 * 18446744073709551616 + r33 = r31 * 4294967295)
    (e34 : r34 * 18446744073709551616 + r35 = r31 * 18446744073709551615)
    (e36 : r36 * 18446744073709551616 + r37 = r31 * 18446744069414584320)
    (e38 : r36 + r35 + 0 = r38 + 18446744073709551616 * r39)
    (e40 : r34 + r33 + r39 = r40 + 18446744073709551616 * r41)
    (e42 : r24 + r31 + 0 = 0 + 18446744073709551616 * r43)
    (e44 : r26 + r37 + r43 = r44 + 18446744073709551616 * r45)
    (e46 : r28 + r38 + r45 = r46 + 18446744073709551616 * r47)
    (e48 : r48 = r15 + r6)
    (e49 : r49 = r23 + r48)
    (e50 : r50 = r29 + r49)
    (e51 : r50 + r40 + r47 = r51 + 18446744073709551616 * r52)
    (e53 : r44 + x2 + 0 = r53 + 18446744073709551616 * r54)
    (e55 : r46 + 0 + r54 = r55 + 18446744073709551616 * r56)
    (e57 : r51 + 0 + r56 = r57 + 18446744073709551616 * r58)
    (e61 : r61 * 18446744073709551616 + r62 = r60 * 4294967295)
    (e63 : r63 * 18446744073709551616 + r64 = r60 * 18446744073709551615)
    (e65 : r65 * 18446744073709551616 + r66 = r60 * 18446744069414584320)
    (e67 : r65 + r64 + 0 = r67 + 18446744073709551616 * r68)
    (e69 : r63 + r62 + r68 = r69 + 18446744073709551616 * r70)
    (e71 : r53 + r60 + 0 = 0 + 18446744073709551616 * r72)
    (e73 : r55 + r66 + r72 = r73 + 18446744073709551616 * r74)
    (e75 : r57 + r67 + r74 = r75 + 18446744073709551616 * r76)
    (e77 : r77 = r41 + r32)
    (e78 : r78 = r52 + r77)
    (e79 : r79 = r58 + r78)
    (e80 : r79 + r69 + r76 = r80 + 18446744073709551616 * r81)
    (e82 : r73 + x3 + 0 = r82 + 18446744073709551616 * r83)
    (e84 : r75 + 0 + r83 = r84 + 18446744073709551616 * r85)
    (e86 : r80 + 0 + r85 = r86 + 18446744073709551616 * r87)
    (e90 : r90 * 18446744073709551616 + r91 = r89 * 4294967295)
    (e92 : r92 * 18446744073709551616 + r93 = r89 * 18446744073709551615)
    (e94 : r94 * 18446744073709551616 + r95 = r89 * 18446744069414584320)
    (e96 : r94 + r93 + 0 = r96 + 18446744073709551616 * r97)
    (e98 : r92 + r91 + r97 = r98 + 18446744073709551616 * r99)
    (e100 : r82 + r89 + 0 = 0 + 18446744073709551616 * r101)
    (e102 : r84 + r95 + r101 = r102 + 18446744073709551616 * r103)
    (e104 : r86 + r96 + r103 = r104 + 18446744073709551616 * r105)
    (e106 : r106 = r70 + r61)
    (e107 : r107 = r81 + r106)
    (e108 : r108 = r87 + r107)
    (e109 : r108 + r98 + r105 = r109 + 18446744073709551616 * r110)
    (e111 : r111 = r99 + r90)
    (e112 : r112 = r110 + r111) :
    (r102 + 18446744073709551616 * r104 + 340282366920938463463374607431768211456 * r109 + 6277101735386680763835789423207666416102355444464034512896 * r112 + 115792089237316195423570985008687907853269984665640564039457584007913129639936 * 0) * 115792089237316195423570985008687907853269984665640564039457584007913129639936 = 1 * x0 + 18446744073709551616 * x1 + 340282366920938463463374607431768211456 * x2 + 6277101735386680763835789423207666416102355444464034512896 * x3 + (1 * r5 + 18446744073709551616 * r31 + 340282366920938463463374607431768211456 * r60 + 6277101735386680763835789423207666416102355444464034512896 * r89) * 26959946667150639794667015087019630673557916260026308143510066298881 := by
  refine lin_fin (lin_add (-726838724295606890549323807888004534353641360687318060281490199180639288113397923326191050713763565560762521606266177933534601628614656) e112 (lin_add (-726838724295606890549323807888004534353641360687318060281490199180639288113397923326191050713763565560762521606266177933534601628614656) e111 (lin_add 39402006196394479212279040100143613805079739270465446667948293404245721771497210611414266254884915640806627990306816 e109 (lin_add (-39402006196394479212279040100143613805079739270465446667948293404245721771497210611414266254884915640806627990306816) e108 (lin_add (-39402006196394479212279040100143613805079739270465446667948293404245721771497210611414266254884915640806627990306816) e107 (lin_add (-39402006196394479212279040100143613805079739270465446667948293404245721771497210611414266254884915640806627990306816) e106 (lin_add 2135987035920910082395021706169552114602704522356652769947041607822219725780640550022962086936576 e104 (lin_add 115792089237316195423570985008687907853269984665640564039457584007913129639936 e102 (lin_add 6277101735386680763835789423207666416102355444464034512896 e100 (lin_add 39402006196394479212279040100143613805079739270465446667948293404245721771497210611414266254884915640806627990306816 e98 (lin_add 2135987035920910082395021706169552114602704522356652769947041607822219725780640550022962086936576 e96 (lin_add (-115792089237316195423570985008687907853269984665640564039457584007913129639936) e94 (lin_add (-2135987035920910082395021706169552114602704522356652769947041607822219725780640550022962086936576) e92 (lin_add (-39402006196394479212279040100143613805079739270465446667948293404245721771497210611414266254884915640806627990306816) e90 (lin_add 2135987035920910082395021706169552114602704522356652769947041607822219725780640550022962086936576 e86 (lin_add 115792089237316195423570985008687907853269984665640564039457584007913129639936 e84 (lin_add 6277101735386680763835789423207666416102355444464034512896 e82 (lin_add 2135987035920910082395021706169552114602704522356652769947041607822219725780640550022962086936576 e80 (lin_add (-2135987035920910082395021706169552114602704522356652769947041607822219725780640550022962086936576) e79 (lin_add (-2135987035920910082395021706169552114602704522356652769947041607822219725780640550022962086936576) e78 (lin_add (-2135987035920910082395021706169552114602704522356652769947041607822219725780640550022962086936576) e77 (lin_add 115792089237316195423570985008687907853269984665640564039457584007913129639936 e75 (lin_add 6277101735386680763835789423207666416102355444464034512896 e73 (lin_add 340282366920938463463374607431768211456 e71 (lin_add 2135987035920910082395021706169552114602704522356652769947041607822219725780640550022962086936576 e69 (lin_add 115792089237316195423570985008687907853269984665640564039457584007913129639936 e67 (lin_add (-6277101735386680763835789423207666416102355444464034512896) e65 (lin_add (-115792089237316195423570985008687907853269984665640564039457584007913129639936) e63 (lin_add (-2135987035920910082395021706169552114602704522356652769947041607822219725780640550022962086936576) e61 (lin_add 115792089237316195423570985008687907853269984665640564039457584007913129639936 e57 (lin_add 6277101735386680763835789423207666416102355444464034512896 e55 (lin_add 340282366920938463463374607431768211456 e53 (lin_add 115792089237316195423570985008687907853269984665640564039457584007913129639936 e51 (lin_add (-115792089237316195423570985008687907853269984665640564039457584007913129639936) e50 (lin_add (-115792089237316195423570985008687907853269984665640564039457584007913129639936) e49 (lin_add (-115792089237316195423570985008687907853269984665640564039457584007913129639936) e48 (lin_add 6277101735386680763835789423207666416102355444464034512896 e46 (lin_add 340282366920938463463374607431768211456 e44 (lin_add 18446744073709551616 e42 (lin_add 115792089237316195423570985008687907853269984665640564039457584007913129639936 e40 (lin_add 6277101735386680763835789423207666416102355444464034512896 e38 (lin_add (-340282366920938463463374607431768211456) e36 (lin_add (-6277101735386680763835789423207666416102355444464034512896) e34 (lin_add (-115792089237316195423570985008687907853269984665640564039457584007913129639936) e32 (lin_add 6277101735386680763835789423207666416102355444464034512896 e28 (lin_add 340282366920938463463374607431768211456 e26 (lin_add 18446744073709551616 e24 (lin_add 6277101735386680763835789423207666416102355444464034512896 e22 (lin_add 340282366920938463463374607431768211456 e20 (lin_add 18446744073709551616 e18 (lin_add 1 e16 (lin_add 6277101735386680763835789423207666416102355444464034512896 e14 (lin_add 340282366920938463463374607431768211456 e12 (lin_add (-18446744073709551616) e10 (lin_add (-340282366920938463463374607431768211456) e8 (lin_add (-6277101735386680763835789423207666416102355444464034512896) e6 lin_zero)))))))))))))))))))))))))))))))))))))))))))))))))))))))) ?_
  clear e6 e8 e10 e12 e14 e16 e18 e20 e22 e24 e26 e28 e32 e34 e36 e38 e40 e42 e44 e46 e48 e49 e50 e51 e53 e55 e57 e61 e63 e65 e67 e69 e71 e73 e75 e77 e78 e79 e80 e82 e84 e86 e90 e92 e94 e96 e98 e100 e102 e104 e106 e107 e108 e109 e111 e112
  omega

theorem fromm_E {x0 x1 x2 x3 : Int} : 1 * x0 + 18446744073709551616 * x1 + 340282366920938463463374607431768211456 * x2 + 6277101735386680763835789423207666416102355444464034512896 * x3 = val64 [x0, x1, x2, x3] * 1 := by
  simp only [val64_4]
  grind

theorem fromm_law {Q : List Int → Prop} {x0 x1 x2 x3 : Int}
    (l0 : 0 ≤ x0) (h0 : x0 ≤ 18446744073709551615) (l1 : 0 ≤ x1) (h1 : x1 ≤ 18446744073709551615) (l2 : 0 ≤ x2) (h2 : x2 ≤ 18446744073709551615) (l3 : 0 ≤ x3) (h3 : x3 ≤ 18446744073709551615)
    (hA : 0 ≤ val64 [x0, x1, x2, x3] ∧ val64 [x0, x1, x2, x3] < pI)
    (hQ : ∀ o0 o1 o2 o3 : Int, Core 115792089237316195423570985008687907853269984665640564039457584007913129639936 (val64 [x0, x1, x2, x3] * 1) o0 o1 o2 o3 → Q [o0, o1, o2, o3]) : fromm_vc Q x0 x1 x2 x3 := by
  unfold fromm_vc
  refine ⟨trivial, fun r4 r5 hh => ?_⟩
  obtain ⟨l4, h4, l5, h5, e4⟩ := mul64_post hh
  clear hh
  have h4 := hi_le2 (C := 18446744073709551614) e4 l5 l0 h0 (by decide) (Int.le_refl _) (by decide)
  refine ⟨trivial, fun r6 r7 hh => ?_⟩
  obtain ⟨l6, h6, l7, h7, e6⟩ := mul64_post hh
  clear hh
  have h6 := hi_le2 (C := 4294967294) e6 l7 l5 h5 (by decide) (Int.le_refl _) (by decide)
  refine ⟨trivial, fun r8 r9 hh => ?_⟩
  obtain ⟨l8, h8, l9, h9, e8⟩ := mul64_post hh
  clear hh
  have h8 := hi_le2 (C := 18446744073709551614) e8 l9 l5 h5 (by decide) (Int.le_refl _) (by decide)
  refine ⟨trivial, fun r10 r11 hh => ?_⟩
  obtain ⟨l10, h10, l11, h11, e10⟩ := mul64_post hh
  clear hh
  have h10 := hi_le2 (C := 18446744069414584319) e10 l11 l5 h5 (by decide) (Int.le_refl _) (by decide)
  refine ⟨(by decide), fun r12 r13 s12 s13 => ?_⟩
  obtain ⟨l12, h12, l13, h13, e12⟩ := add64_spec l10 (Int.le_trans h10 (by decide)) l9 h9 (by decide) (by decide) s12 s13
  clear s12 s13
  refine ⟨h13, fun r14 r15 s14 s15 => ?_⟩
  obtain ⟨l14, h14, l15, h15, e14⟩ := add64_spec l8 (Int.le_trans h8 (by decide)) l7 h7 l13 h13 s14 s15
  clear s14 s15
  refine ⟨(by decide), fun r16 r17 s16 s17 => ?_⟩
  obtain ⟨l16, h16, l17, h17, e16⟩ := add64_spec l0 h0 l5 h5 (by decide) (by decide) s16 s17
  clear s16 s17
  have z16 := red_zero e4 e16 l16 h16
  rw [z16] at e16
  refine ⟨h17, fun r18 r19 s18 s19 => ?_⟩
  obtain ⟨l18, h18, l19, h19, e18⟩ := add64_spec (by decide) (by decide) l11 h11 l17 h17 s18 s19
  clear s18 s19
  refine ⟨h19, fun r20 r21 s20 s21 => ?_⟩
  obtain ⟨l20, h20, l21, h21, e20⟩ := add64_spec (by decide) (by decide) l12 h12 l19 h19 s20 s21
  clear s20 s21
  refine ⟨h21, fun r22 r23 s22 s23 => ?_⟩
  obtain ⟨l22, h22, l23, h23, e22⟩ := add64_spec (by decide) (by decide) l14 h14 l21 h21 s22 s23
  clear s22 s23
  refine ⟨(by decide), fun r24 r25 s24 s25 => ?_⟩
  obtain ⟨l24, h24, l25, h25, e24⟩ := add64_spec l18 h18 l1 h1 (by decide) (by decide) s24 s25
  clear s24 s25
  refine ⟨h25, fun r26 r27 s26 s27 => ?_⟩
  obtain ⟨l26, h26, l27, h27, e26⟩ := add64_spec l20 h20 (by decide) (by decide) l25 h25 s26 s27
  clear s26 s27
  refine ⟨h27, fun r28 r29 s28 s29 => ?_⟩
  obtain ⟨l28, h28, l29, h29, e28⟩ := add64_spec l22 h22 (by decide) (by decide) l27 h27 s28 s29
  clear s28 s29
  refine ⟨trivial, fun r30 r31 hh => ?_⟩
  obtain ⟨l30, h30, l31, h31, e30⟩ := mul64_post hh
  clear hh
  have h30 := hi_le2 (C := 18446744073709551614) e30 l31 l24 h24 (by decide) (Int.le_refl _) (by decide)
  refine ⟨trivial, fun r32 r33 hh => ?_⟩
  obtain ⟨l32, h32, l33, h33, e32⟩ := mul64_post hh
  clear hh
  have h32 := hi_le2 (C := 4294967294) e32 l33 l31 h31 (by decide) (Int.le_refl _) (by decide)
  refine ⟨trivial, fun r34 r35 hh => ?_⟩
  obtain ⟨l34, h34, l35, h35, e34⟩ := mul64_post hh
  clear hh
  have h34 := hi_le2 (C := 18446744073709551614) e34 l35 l31 h31 (by decide) (Int.le_refl _) (by decide)
  refine ⟨trivial, fun r36 r37 hh => ?_⟩
  obtain ⟨l36, h36, l37, h37, e36⟩ := mul64_post hh
  clear hh
  have h36 := hi_le2 (C := 18446744069414584319) e36 l37 l31 h31 (by decide) (Int.le_refl _) (by decide)
  refine ⟨(by decide), fun r38 r39 s38 s39 => ?_⟩
  obtain ⟨l38, h38, l39, h39, e38⟩ := add64_spec l36 (Int.le_trans h36 (by decide)) l35 h35 (by decide) (by decide) s38 s39
  clear s38 s39
  refine ⟨h39, fun r40 r41 s40 s41 => ?_⟩
  obtain ⟨l40, h40, l41, h41, e40⟩ := add64_spec l34 (Int.le_trans h34 (by decide)) l33 h33 l39 h39 s40 s41
  clear s40 s41
  refine ⟨(by decide), fun r42 r43 s42 s43 => ?_⟩
  obtain ⟨l42, h42, l43, h43, e42⟩ := add64_spec l24 h24 l31 h31 (by decide) (by decide) s42 s43
  clear s42 s43
  have z42 := red_zero e30 e42 l42 h42
  rw [z42] at e42
  refine ⟨h43, fun r44 r45 s44 s45 => ?_⟩
  obtain ⟨l44, h44, l45, h45, e44⟩ := add64_spec l26 h26 l37 h37 l43 h43 s44 s45
  clear s44 s45
  refine ⟨h45, fun r46 r47 s46 s47 => ?_⟩
  obtain ⟨l46, h46, l47, h47, e46⟩ := add64_spec l28 h28 l38 h38 l45 h45 s46 s47
  clear s46 s47
  intro r48 s48
  obtain ⟨l48, h48, e48⟩ := add_ok l15 h15 l6 h6 (by decide) s48
  clear s48
  have h48 : r48 ≤ 4294967295 := Int.le_trans h48 (by decide)
  intro r49 s49
  obtain ⟨l49, h49, e49⟩ := add_ok l23 h23 l48 h48 (by decide) s49
  clear s49
  have h49 : r49 ≤ 4294967296 := Int.le_trans h49 (by decide)
  intro r50 s50
  obtain ⟨l50, h50, e50⟩ := add_ok l29 h29 l49 h49 (by decide) s50
  clear s50
  have h50 : r50 ≤ 4294967297 := Int.le_trans h50 (by decide)
  refine ⟨h47, fun r51 r52 s51 s52 => ?_⟩
  obtain ⟨l51, h51, l52, h52, e51⟩ := add64_spec l50 (Int.le_trans h50 (by decide)) l40 h40 l47 h47 s51 s52
  clear s51 s52
  refine ⟨(by decide), fun r53 r54 s53 s54 => ?_⟩
  obtain ⟨l53, h53, l54, h54, e53⟩ := add64_spec l44 h44 l2 h2 (by decide) (by decide) s53 s54
  clear s53 s54
  refine ⟨h54, fun r55 r56 s55 s56 => ?_⟩
  obtain ⟨l55, h55, l56, h56, e55⟩ := add64_spec l46 h46 (by decide) (by decide) l54 h54 s55 s56
  clear s55 s56
  refine ⟨h56, fun r57 r58 s57 s58 => ?_⟩
  obtain ⟨l57, h57, l58, h58, e57⟩ := add64_spec l51 h51 (by decide) (by decide) l56 h56 s57 s58
  clear s57 s58
  refine ⟨trivial, fun r59 r60 hh => ?_⟩
  obtain ⟨l59, h59, l60, h60, e59⟩ := mul64_post hh
  clear hh
  have h59 := hi_le2 (C := 18446744073709551614) e59 l60 l53 h53 (by decide) (Int.le_refl _) (by decide)
  refine ⟨trivial, fun r61 r62 hh => ?_⟩
  obtain ⟨l61, h61, l62, h62, e61⟩ := mul64_post hh
  clear hh
  have h61 := hi_le2 (C := 4294967294) e61 l62 l60 h60 (by decide) (Int.le_refl _) (by decide)
  refine ⟨trivial, fun r63 r64 hh => ?_⟩
  obtain ⟨l63, h63, l64, h64, e63⟩ := mul64_post hh
  clear hh
  have h63 := hi_le2 (C := 18446744073709551614) e63 l64 l60 h60 (by decide) (Int.le_refl _) (by decide)
  refine ⟨trivial, fun r65 r66 hh => ?_⟩
  obtain ⟨l65, h65, l66, h66, e65⟩ := mul64_post hh
  clear hh
  have h65 := hi_le2 (C := 18446744069414584319) e65 l66 l60 h60 (by decide) (Int.le_refl _) (by decide)
  refine ⟨(by decide), fun r67 r68 s67 s68 => ?_⟩
  obtain ⟨l67, h67, l68, h68, e67⟩ := add64_spec l65 (Int.le_trans h65 (by decide)) l64 h64 (by decide) (by decide) s67 s68
  clear s67 s68
  refine ⟨h68, fun r69 r70 s69 s70 => ?_⟩
  obtain ⟨l69, h69, l70, h70, e69⟩ := add64_spec l63 (Int.le_trans h63 (by decide)) l62 h62 l68 h68 s69 s70
  clear s69 s70
  refine ⟨(by decide), fun r71 r72 s71 s72 => ?_⟩
  obtain ⟨l71, h71, l72, h72, e71⟩ := add64_spec l53 h53 l60 h60 (by decide) (by decide) s71 s72
  clear s71 s72
  have z71 := red_zero e59 e71 l71 h71
  rw [z71] at e71
  refine ⟨h72, fun r73 r74 s73 s74 => ?_⟩
  obtain ⟨l73, h73, l74, h74, e73⟩ := add64_spec l55 h55 l66 h66 l72 h72 s73 s74
  clear s73 s74
  refine ⟨h74, fun r75 r76 s75 s76 => ?_⟩
  obtain ⟨l75, h75, l76, h76, e75⟩ := add64_spec l57 h57 l67 h67 l74 h74 s75 s76
  clear s75 s76
  intro r77 s77
  obtain ⟨l77, h77, e77⟩ := add_ok l41 h41 l32 h32 (by decide) s77
  clear s77
  have h77 : r77 ≤ 4294967295 := Int.le_trans h77 (by decide)
  intro r78 s78
  obtain ⟨l78, h78, e78⟩ := add_ok l52 h52 l77 h77 (by decide) s78
  clear s78
  have h78 : r78 ≤ 4294967296 := Int.le_trans h78 (by decide)
  intro r79 s79
  obtain ⟨l79, h79, e79⟩ := add_ok l58 h58 l78 h78 (by decide) s79
  clear s79
  have h79 : r79 ≤ 4294967297 := Int.le_trans h79 (by decide)
  refine ⟨h76, fun r80 r81 s80 s81 => ?_⟩
  obtain ⟨l80, h80, l81, h81, e80⟩ := add64_spec l79 (Int.le_trans h79 (by decide)) l69 h69 l76 h76 s80 s81
  clear s80 s81
  refine ⟨(by decide), fun r82 r83 s82 s83 => ?_⟩
  obtain ⟨l82, h82, l83, h83, e82⟩ := add64_spec l73 h73 l3 h3 (by decide) (by decide) s82 s83
  clear s82 s83
  refine ⟨h83, fun r84 r85 s84 s85 => ?_⟩
  obtain ⟨l84, h84, l85, h85, e84⟩ := add64_spec l75 h75 (by decide) (by decide) l83 h83 s84 s85
  clear s84 s85
  refine ⟨h85, fun r86 r87 s86 s87 => ?_⟩
  obtain ⟨l86, h86, l87, h87, e86⟩ := add64_spec l80 h80 (by decide) (by decide) l85 h85 s86 s87
  clear s86 s87
  refine ⟨trivial, fun r88 r89 hh => ?_⟩
  obtain ⟨l88, h88, l89, h89, e88⟩ := mul64_post hh
  clear hh
  have h88 := hi_le2 (C := 18446744073709551614) e88 l89 l82 h82 (by decide) (Int.le_refl _) (by decide)
  refine ⟨trivial, fun r90 r91 hh => ?_⟩
  obtain ⟨l90, h90, l91, h91, e90⟩ := mul64_post hh
  clear hh
  have h90 := hi_le2 (C := 4294967294) e90 l91 l89 h89 (by decide) (Int.le_refl _) (by decide)
  refine ⟨trivial, fun r92 r93 hh => ?_⟩
  obtain ⟨l92, h92, l93, h93, e92⟩ := mul64_post hh
  clear hh
  have h92 := hi_le2 (C := 18446744073709551614) e92 l93 l89 h89 (by decide) (Int.le_refl _) (by decide)
  refine ⟨trivial, fun r94 r95 hh => ?_⟩
  obtain ⟨l94, h94, l95, h95, e94⟩ := mul64_post hh
  clear hh
  have h94 := hi_le2 (C := 18446744069414584319) e94 l95 l89 h89 (by decide) (Int.le_refl _) (by decide)
  refine ⟨(by decide), fun r96 r97 s96 s97 => ?_⟩
  obtain ⟨l96, h96, l97, h97, e96⟩ := add64_spec l94 (Int.le_trans h94 (by decide)) l93 h93 (by decide) (by decide) s96 s97
  clear s96 s97
  refine ⟨h97, fun r98 r99 s98 s99 => ?_⟩
  obtain ⟨l98, h98, l99, h99, e98⟩ := add64_spec l92 (Int.le_trans h92 (by decide)) l91 h91 l97 h97 s98 s99
  clear s98 s99
  refine ⟨(by decide), fun r100 r101 s100 s101 => ?_⟩
  obtain ⟨l100, h100, l101, h101, e100⟩ := add64_spec l82 h82 l89 h89 (by decide) (by decide) s100 s101
  clear s100 s101
  have z100 := red_zero e88 e100 l100 h100
  rw [z100] at e100
  refine ⟨h101, fun r102 r103 s102 s103 => ?_⟩
  obtain ⟨l102, h102, l103, h103, e102⟩ := add64_spec l84 h84 l95 h95 l101 h101 s102 s103
  clear s102 s103
  refine ⟨h103, fun r104 r105 s104 s105 => ?_⟩
  obtain ⟨l104, h104, l105, h105, e104⟩ := add64_spec l86 h86 l96 h96 l103 h103 s104 s105
  clear s104 s105
  intro r106 s106
  obtain ⟨l106, h106, e106⟩ := add_ok l70 h70 l61 h61 (by decide) s106
  clear s106
  have h106 : r106 ≤ 4294967295 := Int.le_trans h106 (by decide)
  intro r107 s107
  obtain ⟨l107, h107, e107⟩ := add_ok l81 h81 l106 h106 (by decide) s107
  clear s107
  have h107 : r107 ≤ 4294967296 := Int.le_trans h107 (by decide)
  intro r108 s108
  obtain ⟨l108, h108, e108⟩ := add_ok l87 h87 l107 h107 (by decide) s108
  clear s108
  have h108 : r108 ≤ 4294967297 := Int.le_trans h108 (by decide)
  refine ⟨h105, fun r109 r110 s109 s110 => ?_⟩
  obtain ⟨l109, h109, l110, h110, e109⟩ := add64_spec l108 (Int.le_trans h108 (by decide)) l98 h98 l105 h105 s109 s110
  clear s109 s110
  intro r111 s111
  obtain ⟨l111, h111, e111⟩ := add_ok l99 h99 l90 h90 (by decide) s111
  clear s111
  have h111 : r111 ≤ 4294967295 := Int.le_trans h111 (by decide)
  intro r112 s112
  obtain ⟨l112, h112, e112⟩ := add_ok l110 h110 l111 h111 (by decide) s112
  clear s112
  have h112 : r112 ≤ 4294967296 := Int.le_trans h112 (by decide)
  refine ⟨(by decide), fun r113 r114 s113 s114 => ?_⟩
  obtain ⟨l113, h113, l114, h114, e113⟩ := sub64_spec l102 h102 (by decide) (by decide) (by decide) (by decide) s113 s114
  clear s113 s114
  refine ⟨h114, fun r115 r116 s115 s116 => ?_⟩
  obtain ⟨l115, h115, l116, h116, e115⟩ := sub64_spec l104 h104 (by decide) (by decide) l114 h114 s115 s116
  clear s115 s116
  refine ⟨h116, fun r117 r118 s117 s118 => ?_⟩
  obtain ⟨l117, h117, l118, h118, e117⟩ := sub64_spec l109 h109 (by decide) (by decide) l116 h116 s117 s118
  clear s117 s118
  refine ⟨h118, fun r119 r120 s119 s120 => ?_⟩
  obtain ⟨l119, h119, l120, h120, e119⟩ := sub64_spec l112 (Int.le_trans h112 (by decide)) (by decide) (by decide) l118 h118 s119 s120
  clear s119 s120
  refine ⟨h120, fun r121 r122 s121 s122 => ?_⟩
  obtain ⟨l121, h121, l122, h122, e121⟩ := sub64_spec (by decide) (by decide) (by decide) (by decide) l120 h120 s121 s122
  clear s121 s122
  refine ⟨⟨l122, h122⟩, fun r123 w123 => ?_⟩
  have w123 := cmov_post w123
  refine ⟨⟨l122, h122⟩, fun r124 w124 => ?_⟩
  have w124 := cmov_post w124
  refine ⟨⟨l122, h122⟩, fun r125 w125 => ?_⟩
  have w125 := cmov_post w125
  refine ⟨⟨l122, h122⟩, fun r126 w126 => ?_⟩
  have w126 := cmov_post w126
  have k := fromm_sum e6 e8 e10 e12 e14 e16 e18 e20 e22 e24 e26 e28 e32 e34 e36 e38 e40 e42 e44 e46 e48 e49 e50 e51 e53 e55 e57 e61 e63 e65 e67 e69 e71 e73 e75 e77 e78 e79 e80 e82 e84 e86 e90 e92 e94 e96 e98 e100 e102 e104 e106 e107 e108 e109 e111 e112
  rw [fromm_E] at k
  have kT := bound_lin k hA (by decide) (by decide) (m_le4 h5 h31 h60 h89)
  exact hQ _ _ _ _ (finish k l102 h102 l104 h104 l109 h109 l112 (Int.le_trans h112 (by decide)) (by decide) kT l113 h113 l114 h114 l115 h115 l116 h116 l117 h117 l118 h118 l119 h119 l120 h120 l121 h121 l122 h122 e113 e115 e117 e119 e121 w123 w124 w125 w126)

theorem fromm_cond : Can.cond canFromM Try.prog X2 tabL relsF 114 0 =
  (∀ x0 x1 x2 x3 : Int,
  0 ≤ x0 → x0 ≤ 18446744073709551615 →
  0 ≤ x1 → x1 ≤ 18446744073709551615 →
  0 ≤ x2 → x2 ≤ 18446744073709551615 →
  0 ≤ x3 → x3 ≤ 18446744073709551615 →
  (relsF 4).pre [x0, x1, x2, x3] →
  fromm_vc ((relsF 4).post [x0, x1, x2, x3]) x0 x1 x2 x3) := by kernel_rfl
theorem fromm_ok : ConOk Try.prog relsF 114 (canFromM).con := can_of_cond hX2 hm2 (tab := tabL) tabL_ok 0 (by decide) (by
  rw [fromm_cond]
  intro x0 x1 x2 x3 l0 h0 l1 h1 l2 h2 l3 h3 hp
  exact fromm_law l0 h0 l1 h1 l2 h2 l3 h3 ⟨val64_nonneg hp.1, hp.2⟩ fun o0 o1 o2 o3 hc => by
    obtain ⟨hok, q, hq⟩ := hc.ok
    exact ⟨hok, conv_red (by rw [← Int.mul_one (val64 [x0, x1, x2, x3])]; exact hq)⟩)
end Go.Sx
