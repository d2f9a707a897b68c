/- What the functions over limbs and words do, as relations. -/
import Derived.Test.YtkjfcpeabdimmaaBaseSound
import Derived.Test.YtkjfcpeabdimmaaBaseMath
import Derived.KernelRfl
import Derived.Test.YtkjfcpeabdimmaaProg
set_option linter.unusedVariables false
set_option linter.unusedSimpArgs false
set_option linter.constructorNameAsVariable false
namespace Go.Sx
open Go.FP Go.EC

/-- Words, the lowest first. -/
def valL (b : Int) : List Int → Int
  | [] => 0
  | x :: l => x + b * valL b l
def rng (b : Int) : List Int → Prop
  | [] => True
  | x :: l => 0 ≤ x ∧ x < b ∧ rng b l
def pI : Int := 26959946667150639794667015087019630673557916260026308143510066298881
/-- Words of 64 bits; of 32 bits; bytes, the highest first. -/
def val64 (l : List Int) : Int := valL 18446744073709551616 l
def val32 (l : List Int) : Int := valL 4294967296 l
def valB (l : List Int) : Int := valL 256 l.reverse
def r64 (l : List Int) : Prop := rng 18446744073709551616 l
def r32 (l : List Int) : Prop := rng 4294967296 l

theorem pI_eq : pI = (p : Nat) := by decide +kernel
def rI : F := nF 6277101733925179126504886505003981583349178936664977833984
def rR : Int := 115792089237316195423570985008687907853269984665640564039457584007913129639936
theorem rI_R : toF p rR * rI = 1 := by decide +kernel

abbrev tF (n : Int) : F := toF p n
theorem tF_add (a b : Int) : tF (a + b) = tF a + tF b := toF_add a b
theorem tF_mul (a b : Int) : tF (a * b) = tF a * tF b := toF_mul a b
theorem tF_sub (a b : Int) : tF (a - b) = tF a - tF b := toF_sub a b
theorem tF_p (q : Int) : tF (q * pI) = 0 := by
  rw [tF_mul]
  have : tF pI = 0 := by decide +kernel
  rw [this]
  grind
theorem tF_q {x y : Int} (q : Int) (h : x = y + q * pI) : tF x = tF y := by
  rw [h, tF_add, tF_p]
  grind
/-- The number, from its image. -/
theorem tF_inj {x y : Int} (hx : 0 ≤ x) (hx' : x < pI) (hy : 0 ≤ y) (hy' : y < pI) (h : tF x = tF y) : x = y := by
  rw [toF_eq, ← pI_eq] at h
  rw [Int.emod_eq_of_lt hx hx', Int.emod_eq_of_lt hy hy'] at h
  exact h
theorem tF_val {x : Int} (hx : 0 ≤ x) (hx' : x < pI) : ((tF x).val : Int) = x := by
  rw [toF_val, ← pI_eq, Int.emod_eq_of_lt hx hx']

/-- An element in the Montgomery domain; a number by words of 32 bits. -/
def ok64 (l : List Int) : Prop := r64 l ∧ val64 l < pI
def dec64 (l : List Int) : F := tF (val64 l) * rI
def ok32 (l : List Int) : Prop := r32 l ∧ val32 l < pI
def dec32 (l : List Int) : F := tF (val32 l)

theorem rng_nonneg {b : Int} (hb : 0 ≤ b) : ∀ {l : List Int}, rng b l → 0 ≤ valL b l
  | [], _ => Int.le_refl 0
  | x :: l, h => Int.add_nonneg h.1 (Int.mul_nonneg hb (rng_nonneg hb h.2.2))
theorem val64_nonneg {l : List Int} (h : r64 l) : 0 ≤ val64 l := rng_nonneg (by decide) h
theorem val32_nonneg {l : List Int} (h : r32 l) : 0 ≤ val32 l := rng_nonneg (by decide) h

theorem valL_inj {b : Int} (hb : 0 < b) : ∀ {l m : List Int}, rng b l → rng b m → l.length = m.length → valL b l = valL b m → l = m
  | [], [], _, _, _, _ => rfl
  | x :: l, y :: m, h, k, hl, e => by
    simp only [valL] at e
    have e1 : x = y := by
      have a1 := Int.emod_eq_of_lt h.1 h.2.1
      have a2 := Int.emod_eq_of_lt k.1 k.2.1
      have : (x + b * valL b l) % b = (y + b * valL b m) % b := by rw [e]
      rw [Int.add_mul_emod_self_left, Int.add_mul_emod_self_left, a1, a2] at this
      exact this
    subst e1
    have e2 : b * valL b l = b * valL b m := by omega
    have e3 := Int.eq_of_mul_eq_mul_left (by omega) e2
    rw [valL_inj hb h.2.2 k.2.2 (by simpa using hl) e3]

theorem dec64_inj {l m : List Int} (h : ok64 l) (k : ok64 m) (hl : l.length = m.length) (e : dec64 l = dec64 m) : l = m := by
  have e2 : tF (val64 l) = tF (val64 m) := by
    unfold dec64 at e
    have := rI_R
    show tF (val64 l) = tF (val64 m)
    generalize tF (val64 l) = a at *
    generalize tF (val64 m) = c at *
    generalize tF rR = R at *
    generalize rI = I at *
    clear h k hl
    grind
  exact valL_inj (by decide) h.1 k.1 hl (tF_inj (val64_nonneg h.1) h.2 (val64_nonneg k.1) k.2 e2)
theorem dec32_inj {l m : List Int} (h : ok32 l) (k : ok32 m) (hl : l.length = m.length) (e : dec32 l = dec32 m) : l = m :=
  valL_inj (by decide) h.1 k.1 hl (tF_inj (val32_nonneg h.1) h.2 (val32_nonneg k.1) k.2 e)

/-! ### The relations -/
def relMul64 : RelSpec := { pre := fun _ => True, post := fun i o => match i, o with
  | [x, y], [h, l] => 0 ≤ h ∧ h ≤ 18446744073709551615 ∧ 0 ≤ l ∧ l ≤ 18446744073709551615 ∧ h * 18446744073709551616 + l = x * y
  | _, _ => False }
/-- The bytes' number in words of 64 bits, the lowest byte first. -/
def relFromBytes : RelSpec := { pre := fun _ => True, post := fun i o => r64 o ∧ val64 o = valL 256 i }
def relToBytes : RelSpec := { pre := fun i => val64 i < pI, post := fun i o => rng 256 o ∧ valL 256 o = val64 i }
def relToM : RelSpec := { pre := fun i => val64 i < pI, post := fun i o => ok64 o ∧ dec64 o = tF (val64 i) }
def relFromM : RelSpec := { pre := ok64, post := fun i o => ok64 o ∧ tF (val64 o) = dec64 i }
/-- Is the first number of bytes, the highest first, at most the second? -/
def relLeq : RelSpec := { pre := fun _ => True, post := fun i o => match o with
  | [r] => (valB (i.take 28) ≤ valB (i.drop 28) → r = 1) ∧ (¬ valB (i.take 28) ≤ valB (i.drop 28) → r = 0)
  | _ => False }
def op2 (f : F → F → F) : RelSpec := { pre := fun i => ok64 (i.take 4) ∧ ok64 (i.drop 4), post := fun i o => ok64 o ∧ dec64 o = f (dec64 (i.take 4)) (dec64 (i.drop 4)) }
def op1 (f : F → F) : RelSpec := { pre := ok64, post := fun i o => ok64 o ∧ dec64 o = f (dec64 i) }
def bitAt (i : List Int) : Prop := match i with
  | c :: _ => 0 ≤ c ∧ c ≤ 1
  | _ => False
def relCmov : RelSpec := { pre := bitAt, post := fun i o => match i, o with
  | [c, x, y], [r] => (c = 0 → r = x) ∧ (c = 1 → r = y)
  | _, _ => False }
def relSelect : RelSpec := { pre := bitAt, post := fun i o => match i with
  | c :: l => (c = 0 → o = l.take 4) ∧ (c = 1 → o = l.drop 4)
  | _ => False }
def isB (r : List Int) (q : Prop) : Prop := match r with
  | [r] => (q → r = 1) ∧ (¬ q → r = 0)
  | _ => False
def relIsZero : RelSpec := { pre := ok64, post := fun i o => isB o (dec64 i = 0) }
def relCt : RelSpec := { pre := fun _ => True, post := fun i o => isB o (i.take 28 = i.drop 28) }
def relEqual : RelSpec := { pre := fun i => ok64 (i.take 4) ∧ ok64 (i.drop 4), post := fun i o => isB o (dec64 (i.take 4) = dec64 (i.drop 4)) }
def relConst (x : F) : RelSpec := { pre := fun _ => True, post := fun _ o => ok64 o ∧ dec64 o = x }

def relNumber : RelSpec := { pre := fun _ => True, post := fun i o => r32 o ∧ val32 o = valB i }
def relBelow : RelSpec := { pre := r32, post := fun i o => isB o (val32 (i.take 7) < val32 (i.drop 7)) }
def relSame : RelSpec := { pre := fun _ => True, post := fun i o => isB o (i.take 7 = i.drop 7) }
def sop2 (f : F → F → F) : RelSpec := { pre := fun i => ok32 (i.take 7) ∧ ok32 (i.drop 7), post := fun i o => ok32 o ∧ dec32 o = f (dec32 (i.take 7)) (dec32 (i.drop 7)) }
def sop1 (f : F → F) : RelSpec := { pre := ok32, post := fun i o => ok32 o ∧ dec32 o = f (dec32 i) }
def bnd (B : Int) : List Int → Prop
  | [] => True
  | x :: l => -B ≤ x ∧ x ≤ B ∧ bnd B l
def relReduced : RelSpec := { pre := bnd 8589934592, post := fun i o => ok32 o ∧ dec32 o = tF (val32 i) }
def relCarried : RelSpec := { pre := bnd 1099511627776, post := fun i o => r32 (o.take 7) ∧ val32 i = val32 o }
def relBytes : RelSpec := { pre := r32, post := fun i o => rng 256 o ∧ valB o = val32 i }
def relsF : Nat → RelSpec
  | 0 => relMul64
  | 1 => relFromBytes
  | 2 => relToBytes
  | 3 => relToM
  | 4 => relFromM
  | 5 => relLeq
  | 6 => op2 (fun a b => a * b)
  | 7 => op1 (fun a => a * a)
  | 8 => op2 (fun a b => a + b)
  | 9 => op1 (fun a => a + a)
  | 10 => op2 (fun a b => a - b)
  | 11 => op2 (fun a b => b - a)
  | 12 => relCmov
  | 13 => relSelect
  | 14 => relIsZero
  | 15 => relEqual
  | 16 => relConst bF
  | 17 => op1 iv
  | 18 => relCt
  | 20 => relNumber
  | 21 => relBelow
  | 22 => relSame
  | 23 => sop2 (fun a b => a * b)
  | 24 => sop2 (fun a b => a + b)
  | 25 => sop2 (fun a b => a - b)
  | 26 => relReduced
  | 27 => relCarried
  | 28 => relBytes
  | 29 => sop1 iv
  | _ => relMul64

/-- A contract speaks of its own relation alone. -/
theorem ConOk.lift {P : Program} {rels rels' : Nat → RelSpec} {f : FuncId} {con : Con} (h : ConOk P rels f con) (e : rels' con.id = rels con.id) : ConOk P rels' f con := by
  unfold ConOk at *
  rw [e]
  exact h
def vs (k : IntKind) (b n : Nat) : List Sc := (List.range n).map fun i => .var k (b + i)
def us (n : Nat) : List Sc := (List.range n).map fun _ => .und
def ro (cs : List Sc) : Reg := { cs := cs, rw := false }
def rw_ (cs : List Sc) : Reg := { cs := cs, rw := true }
def ks (k : IntKind) (n : Nat) : List IntKind := (List.range n).map fun _ => k
end Go.Sx

/- The row's program: its two functions without a body. -/
namespace Go.Sx
open Go.Proofs
def X2 : Exts := ⟨109, 110⟩
theorem hX2 : ExtOk Try.prog X2 := extOk (by kernel_rfl) (by kernel_rfl) (by kernel_rfl) (by kernel_rfl) (by kernel_rfl) (by kernel_rfl) (by kernel_rfl) (by kernel_rfl)
theorem hm2 : Try.prog.follows .mixedOrders = true := by kernel_rfl

theorem tab_nil : ∀ f con, (f, con) ∈ ([] : List (FuncId × Con)) → ConOk Try.prog relsF f con := by intro f con h; cases h
theorem tab_cons {f : FuncId} {con : Con} {t : List (FuncId × Con)} (h : ConOk Try.prog relsF f con) (ht : ∀ f con, (f, con) ∈ t → ConOk Try.prog relsF f con) : ∀ g d, (g, d) ∈ (f, con) :: t → ConOk Try.prog relsF g d := by
  intro g d hm
  rcases List.mem_cons.1 hm with e | e
  · cases e; exact h
  · exact ht g d e
theorem tab_app {s t : List (FuncId × Con)} (hs : ∀ f con, (f, con) ∈ s → ConOk Try.prog relsF f con) (ht : ∀ f con, (f, con) ∈ t → ConOk Try.prog relsF f con) : ∀ g d, (g, d) ∈ s ++ t → ConOk Try.prog relsF g d := by
  intro g d hm
  rcases List.mem_append.1 hm with e | e
  · exact hs g d e
  · exact ht g d e
end Go.Sx

/- The canonical states of the limb functions' contracts. -/
namespace Go.Sx
open Go.Proofs
def pt (r : Nat) : AV := .one (.s (.ptr r 0))
def v1 (k : IntKind) (i : Nat) : AV := .one (.s (.var k i))
def canMul64 : Can := { id := 0, kinds := [.u64, .u64], args := [v1 .u64 0, v1 .u64 1], hp := [], outs := [.u64, .u64], res := .tup [.s (.var .u64 2), .s (.var .u64 3)], hpE := [], new := [] }
def canCmov : Can := { id := 12, kinds := [.u64, .u64, .u64], args := [pt 0, v1 .u64 0, v1 .u64 1, v1 .u64 2], hp := [rw_ (us 1)], outs := [.u64], res := .tup [], hpE := [vs .u64 3 1], new := [] }
def canFromBytes : Can := { id := 1, kinds := ks .u8 28, args := [pt 0, pt 1], hp := [rw_ (us 4), ro (vs .u8 0 28)], outs := ks .u64 4, res := .tup [], hpE := [vs .u64 28 4, vs .u8 0 28], new := [] }
def canToBytes : Can := { id := 2, kinds := ks .u64 4, args := [pt 0, pt 1], hp := [rw_ (us 28), ro (vs .u64 0 4)], outs := ks .u8 28, res := .tup [], hpE := [vs .u8 4 28, vs .u64 0 4], new := [] }
def un4 (id : Nat) : Can := { id := id, kinds := ks .u64 4, args := [pt 0, pt 1], hp := [rw_ (us 4), ro (vs .u64 0 4)], outs := ks .u64 4, res := .tup [], hpE := [vs .u64 4 4, vs .u64 0 4], new := [] }
def un4i (id : Nat) : Can := { id := id, kinds := ks .u64 4, args := [pt 0, pt 0], hp := [rw_ (vs .u64 0 4)], outs := ks .u64 4, res := .tup [], hpE := [vs .u64 4 4], new := [] }
def bin4 (id : Nat) : Can := { id := id, kinds := ks .u64 8, args := [pt 0, pt 1, pt 2], hp := [rw_ (us 4), ro (vs .u64 0 4), ro (vs .u64 4 4)], outs := ks .u64 4, res := .tup [], hpE := [vs .u64 8 4, vs .u64 0 4, vs .u64 4 4], new := [] }
def bin4a (id : Nat) : Can := { id := id, kinds := ks .u64 8, args := [pt 0, pt 0, pt 1], hp := [rw_ (vs .u64 0 4), ro (vs .u64 4 4)], outs := ks .u64 4, res := .tup [], hpE := [vs .u64 8 4, vs .u64 4 4], new := [] }
def bin4b (id : Nat) : Can := { id := id, kinds := ks .u64 8, args := [pt 0, pt 1, pt 0], hp := [rw_ (vs .u64 0 4), ro (vs .u64 4 4)], outs := ks .u64 4, res := .tup [], hpE := [vs .u64 8 4, vs .u64 4 4], new := [] }
def bin4s (id : Nat) : Can := { id := id, kinds := ks .u64 4, args := [pt 0, pt 0, pt 0], hp := [rw_ (vs .u64 0 4)], outs := ks .u64 4, res := .tup [], hpE := [vs .u64 4 4], new := [] }
def canToM : Can := un4 3
def canFromM : Can := un4 4
end Go.Sx

/- Sums of equations; the last step of a Montgomery function. -/
namespace Go.Sx
open Go.FP Go.EC

theorem lin_zero : (0 : Int) = 0 := rfl
theorem lin_add (c : Int) {l r L R : Int} (e : l = r) (E : L = R) : L + c * l = R + c * r := by rw [e, E]
theorem lin_fin {L R a b : Int} (S : L = R) (h : a - b = R - L) : a = b := by omega
theorem hi_le2 {a b A B C h l : Int} (e : h * 18446744073709551616 + l = a * b) (hl : 0 ≤ l) (a0 : 0 ≤ a) (ha : a ≤ A) (b0 : 0 ≤ b) (hb : b ≤ B) (hC : A * B < (C + 1) * 18446744073709551616) : h ≤ C := by
  have h1 : a * b ≤ A * B := Int.mul_le_mul ha hb b0 (by omega)
  generalize a * b = p at *
  generalize A * B = q at *
  omega
theorem mul64_post {x y h l : Int} (hh : (relsF 0).post [x, y] [h, l]) : 0 ≤ h ∧ h ≤ 18446744073709551615 ∧ 0 ≤ l ∧ l ≤ 18446744073709551615 ∧ h * 18446744073709551616 + l = x * y := hh
theorem cmov_post {c x y r : Int} (hh : (relsF 12).post [c, x, y] [r]) : (c = 0 → r = x) ∧ (c = 1 → r = y) := hh

/-- The result's limbs: below p, and the number up to a multiple of p. -/
def Core (W E o0 o1 o2 o3 : Int) : Prop :=
  (0 ≤ o0 ∧ o0 ≤ 18446744073709551615) ∧ (0 ≤ o1 ∧ o1 ≤ 18446744073709551615) ∧ (0 ≤ o2 ∧ o2 ≤ 18446744073709551615) ∧ (0 ≤ o3 ∧ o3 ≤ 18446744073709551615) ∧
  o0 + 18446744073709551616 * o1 + 340282366920938463463374607431768211456 * o2 + 6277101735386680763835789423207666416102355444464034512896 * o3 < 26959946667150639794667015087019630673557916260026308143510066298881 ∧
  ∃ q, (o0 + 18446744073709551616 * o1 + 340282366920938463463374607431768211456 * o2 + 6277101735386680763835789423207666416102355444464034512896 * o3) * W = E + q * 26959946667150639794667015087019630673557916260026308143510066298881

theorem finish {t0 t1 t2 t3 t4 s0 s1 s2 s3 s4 b0 b1 b2 b3 b4 o0 o1 o2 o3 E m W : Int}
    (k : (t0 + 18446744073709551616 * t1 + 340282366920938463463374607431768211456 * t2 + 6277101735386680763835789423207666416102355444464034512896 * t3 + 115792089237316195423570985008687907853269984665640564039457584007913129639936 * t4) * W = E + m * 26959946667150639794667015087019630673557916260026308143510066298881)
    (l0 : 0 ≤ t0) (h0 : t0 ≤ 18446744073709551615) (l1 : 0 ≤ t1) (h1 : t1 ≤ 18446744073709551615) (l2 : 0 ≤ t2) (h2 : t2 ≤ 18446744073709551615) (l3 : 0 ≤ t3) (h3 : t3 ≤ 18446744073709551615) (l4 : 0 ≤ t4)
    (kT : t0 + 18446744073709551616 * t1 + 340282366920938463463374607431768211456 * t2 + 6277101735386680763835789423207666416102355444464034512896 * t3 + 115792089237316195423570985008687907853269984665640564039457584007913129639936 * t4 < 53919893334301279589334030174039261347115832520052616287020132597762)
    (a0 : 0 ≤ s0) (a0' : s0 ≤ 18446744073709551615) (c0 : 0 ≤ b0) (c0' : b0 ≤ 1) (a1 : 0 ≤ s1) (a1' : s1 ≤ 18446744073709551615) (c1 : 0 ≤ b1) (c1' : b1 ≤ 1)
    (a2 : 0 ≤ s2) (a2' : s2 ≤ 18446744073709551615) (c2 : 0 ≤ b2) (c2' : b2 ≤ 1) (a3 : 0 ≤ s3) (a3' : s3 ≤ 18446744073709551615) (c3 : 0 ≤ b3) (c3' : b3 ≤ 1)
    (a4 : 0 ≤ s4) (a4' : s4 ≤ 18446744073709551615) (c4 : 0 ≤ b4) (c4' : b4 ≤ 1)
    (e0 : t0 - 1 - 0 = s0 - 18446744073709551616 * b0) (e1 : t1 - 18446744069414584320 - b0 = s1 - 18446744073709551616 * b1)
    (e2 : t2 - 18446744073709551615 - b1 = s2 - 18446744073709551616 * b2) (e3 : t3 - 4294967295 - b2 = s3 - 18446744073709551616 * b3) (e4 : t4 - 0 - b3 = s4 - 18446744073709551616 * b4)
    (w0 : (b4 = 0 → o0 = s0) ∧ (b4 = 1 → o0 = t0)) (w1 : (b4 = 0 → o1 = s1) ∧ (b4 = 1 → o1 = t1)) (w2 : (b4 = 0 → o2 = s2) ∧ (b4 = 1 → o2 = t2)) (w3 : (b4 = 0 → o3 = s3) ∧ (b4 = 1 → o3 = t3)) :
    Core W E o0 o1 o2 o3 := by
  have hb : b4 = 0 ∨ b4 = 1 := by omega
  rcases hb with rfl | rfl
  · obtain rfl := w0.1 rfl
    obtain rfl := w1.1 rfl
    obtain rfl := w2.1 rfl
    obtain rfl := w3.1 rfl
    clear w0 w1 w2 w3
    have hv : o0 + 18446744073709551616 * o1 + 340282366920938463463374607431768211456 * o2 + 6277101735386680763835789423207666416102355444464034512896 * o3 =
        (t0 + 18446744073709551616 * t1 + 340282366920938463463374607431768211456 * t2 + 6277101735386680763835789423207666416102355444464034512896 * t3 + 115792089237316195423570985008687907853269984665640564039457584007913129639936 * t4) - 26959946667150639794667015087019630673557916260026308143510066298881 := by
      clear k
      omega
    refine ⟨⟨a0, a0'⟩, ⟨a1, a1'⟩, ⟨a2, a2'⟩, ⟨a3, a3'⟩, by rw [hv]; omega, m - W, ?_⟩
    rw [hv, Int.sub_mul, k, Int.sub_mul]
    omega
  · obtain rfl := w0.2 rfl
    obtain rfl := w1.2 rfl
    obtain rfl := w2.2 rfl
    obtain rfl := w3.2 rfl
    clear w0 w1 w2 w3
    have h4 : t4 = 0 := by clear k; omega
    subst h4
    refine ⟨⟨l0, h0⟩, ⟨l1, h1⟩, ⟨l2, h2⟩, ⟨l3, h3⟩, by clear k; omega, m, ?_⟩
    rw [Int.mul_zero, Int.add_zero] at k
    exact k

theorem Core.ok {W E o0 o1 o2 o3 : Int} (h : Core W E o0 o1 o2 o3) : ok64 [o0, o1, o2, o3] ∧ ∃ q, val64 [o0, o1, o2, o3] * W = E + q * pI := by
  obtain ⟨⟨a0, b0⟩, ⟨a1, b1⟩, ⟨a2, b2⟩, ⟨a3, b3⟩, hv, q, hq⟩ := h
  have e : val64 [o0, o1, o2, o3] = o0 + 18446744073709551616 * o1 + 340282366920938463463374607431768211456 * o2 + 6277101735386680763835789423207666416102355444464034512896 * o3 := by
    simp only [val64, valL]; omega
  refine ⟨⟨⟨a0, by omega, a1, by omega, a2, by omega, a3, by omega, trivial⟩, by rw [e]; exact hv⟩, q, by rw [e]; exact hq⟩

theorem val64_4 (x0 x1 x2 x3 : Int) : val64 [x0, x1, x2, x3] = x0 + 18446744073709551616 * x1 + 340282366920938463463374607431768211456 * x2 + 6277101735386680763835789423207666416102355444464034512896 * x3 := by
  simp only [val64, valL]; omega

theorem bound_mul {T A B m : Int} (k : T * 115792089237316195423570985008687907853269984665640564039457584007913129639936 = A * B + m * 26959946667150639794667015087019630673557916260026308143510066298881) (hA : 0 ≤ A ∧ A < pI) (hB : 0 ≤ B ∧ B < pI) (hm : m ≤ 115792089237316195423570985008687907853269984665640564039457584007913129639935) :
    T < 53919893334301279589334030174039261347115832520052616287020132597762 := by
  obtain ⟨a0, a1⟩ := hA
  obtain ⟨b0, b1⟩ := hB
  simp only [pI] at a1 b1
  have h : A * B ≤ 26959946667150639794667015087019630673557916260026308143510066298880 * 26959946667150639794667015087019630673557916260026308143510066298880 := Int.mul_le_mul (by omega) (by omega) b0 (by omega)
  generalize A * B = q at *
  omega
theorem bound_lin {T A m c : Int} (k : T * 115792089237316195423570985008687907853269984665640564039457584007913129639936 = A * c + m * 26959946667150639794667015087019630673557916260026308143510066298881) (hA : 0 ≤ A ∧ A < pI) (hc0 : 0 ≤ c) (hc : c < pI) (hm : m ≤ 115792089237316195423570985008687907853269984665640564039457584007913129639935) :
    T < 53919893334301279589334030174039261347115832520052616287020132597762 := bound_mul k hA ⟨hc0, hc⟩ hm
theorem m_le4 {a b c d : Int} (ha : a ≤ 18446744073709551615) (hb : b ≤ 18446744073709551615) (hc : c ≤ 18446744073709551615) (hd : d ≤ 18446744073709551615) :
    1 * a + 18446744073709551616 * b + 340282366920938463463374607431768211456 * c + 6277101735386680763835789423207666416102355444464034512896 * d ≤ 115792089237316195423570985008687907853269984665640564039457584007913129639935 := by omega

/-- From whole numbers to the field. -/
theorem g_mul {n : Nat} [NeZero n] {o a b R I : Fin n} (h1 : o * R = a * b) (h2 : R * I = 1) : o * I = a * I * (b * I) := by grind
theorem g_red {n : Nat} [NeZero n] {o a R I : Fin n} (h1 : o * R = a) (h2 : R * I = 1) : o = a * I := by grind
theorem g_to {n : Nat} [NeZero n] {o a R I : Fin n} (h1 : o * R = a * (R * R)) (h2 : R * I = 1) : o * I = a := by
  have h3 : o * R * I * I = a * (R * R) * I * I := by rw [h1]
  grind
theorem g_add {n : Nat} [NeZero n] {a b I : Fin n} : (a + b) * I = a * I + b * I := by grind
theorem g_sub {n : Nat} [NeZero n] {a b I : Fin n} : (a - b) * I = a * I - b * I := by grind
theorem conv_mul {o a b q : Int} (h : o * rR = a * b + q * pI) : tF o * rI = tF a * rI * (tF b * rI) := by
  have h1 := tF_q q h
  rw [tF_mul, tF_mul] at h1
  exact g_mul h1 rI_R
theorem conv_red {o a q : Int} (h : o * rR = a + q * pI) : tF o = tF a * rI := by
  have h1 := tF_q q h
  rw [tF_mul] at h1
  exact g_red h1 rI_R
theorem conv_to {o a q : Int} (h : o * rR = a * 26959946667150639791744011812698107204071485058075563455699384008705 + q * pI) : tF o * rI = tF a := by
  have h1 := tF_q q h
  rw [tF_mul, tF_mul] at h1
  have h3 : tF 26959946667150639791744011812698107204071485058075563455699384008705 = tF rR * tF rR := by decide +kernel
  rw [h3] at h1
  exact g_to h1 rI_R
theorem conv_add {o a b q : Int} (h : o * 1 = a + b + q * pI) : tF o * rI = tF a * rI + tF b * rI := by
  rw [Int.mul_one] at h
  have h1 := tF_q q h
  rw [tF_add] at h1
  rw [h1]
  exact g_add
theorem conv_sub {o a b q : Int} (h : o = a - b + q * pI) : tF o * rI = tF a * rI - tF b * rI := by
  have h1 := tF_q q h
  rw [tF_sub] at h1
  rw [h1]
  exact g_sub
end Go.Sx

/- The limb functions' own callees: Mul64, the choice by a mask. -/
namespace Go.Sx
open Go.Proofs Go.FP Go.EC

def mul64_stmt : Prop :=
  ∀ x0 x1 : Int,
  0 ≤ x0 → x0 ≤ 18446744073709551615 →
  0 ≤ x1 → x1 ≤ 18446744073709551615 →
  (relsF 0).pre [x0, x1] →
  ∀ r2 : Int, r2 = binFn .and .u64 x0 4294967295 →
  ∀ r3 : Int, r3 = binFn .shr .u64 x0 32 →
  ∀ r4 : Int, r4 = binFn .and .u64 x1 4294967295 →
  ∀ r5 : Int, r5 = binFn .shr .u64 x1 32 →
  ∀ r6 : Int, r6 = binFn .mul .u64 r2 r4 →
  ∀ r7 : Int, r7 = binFn .mul .u64 r3 r4 →
  ∀ r8 : Int, r8 = binFn .shr .u64 r6 32 →
  ∀ r9 : Int, r9 = binFn .add .u64 r7 r8 →
  ∀ r10 : Int, r10 = binFn .and .u64 r9 4294967295 →
  ∀ r11 : Int, r11 = binFn .shr .u64 r9 32 →
  ∀ r12 : Int, r12 = binFn .mul .u64 r2 r5 →
  ∀ r13 : Int, r13 = binFn .add .u64 r10 r12 →
  ∀ r14 : Int, r14 = binFn .mul .u64 r3 r5 →
  ∀ r15 : Int, r15 = binFn .add .u64 r14 r11 →
  ∀ r16 : Int, r16 = binFn .shr .u64 r13 32 →
  ∀ r17 : Int, r17 = binFn .add .u64 r15 r16 →
  ∀ r18 : Int, r18 = binFn .mul .u64 x0 x1 →
  (relsF 0).post [x0, x1] [r17, r18]
theorem mul64_cond : Can.cond canMul64 Try.prog X2 [] relsF 108 0 = mul64_stmt := by kernel_rfl

theorem mul64_law : mul64_stmt := by
  intro x y hx0 hx1 hy0 hy1 _ r2 e2 r3 e3 r4 e4 r5 e5 r6 e6 r7 e7 r8 e8 r9 e9 r10 e10 r11 e11 r12 e12 r13 e13 r14 e14 r15 e15 r16 e16 r17 e17 r18 e18
  simp only [and_u64_32, shr_u64_32, add_u64, mul_u64] at *
  have b2 : 0 ≤ r2 ∧ r2 ≤ 4294967295 := by omega
  have b3 : 0 ≤ r3 ∧ r3 ≤ 4294967295 := by omega
  have b4 : 0 ≤ r4 ∧ r4 ≤ 4294967295 := by omega
  have b5 : 0 ≤ r5 ∧ r5 ≤ 4294967295 := by omega
  have m24 := mul_le2 b2.1 b2.2 b4.1 b4.2
  have m34 := mul_le2 b3.1 b3.2 b4.1 b4.2
  have m25 := mul_le2 b2.1 b2.2 b5.1 b5.2
  have m35 := mul_le2 b3.1 b3.2 b5.1 b5.2
  have key : x * y = r3 * r5 * 18446744073709551616 + (r3 * r4 + r2 * r5) * 4294967296 + r2 * r4 := by
    have hx : x = r3 * 4294967296 + r2 := by omega
    have hy : y = r5 * 4294967296 + r4 := by omega
    rw [hx, hy]
    grind
  show 0 ≤ r17 ∧ r17 ≤ 18446744073709551615 ∧ 0 ≤ r18 ∧ r18 ≤ 18446744073709551615 ∧ r17 * 18446744073709551616 + r18 = x * y
  generalize r2 * r4 = p24 at *
  generalize r3 * r4 = p34 at *
  generalize r2 * r5 = p25 at *
  generalize r3 * r5 = p35 at *
  generalize x * y = p at *
  omega

theorem mul64_ok : ConOk Try.prog relsF 108 canMul64.con := can_of_cond hX2 hm2 (tab := []) tab_nil 0 (by decide) (by rw [mul64_cond]; exact mul64_law)

def cmov_stmt : Prop :=
  ∀ x0 x1 x2 : Int,
  0 ≤ x0 → x0 ≤ 18446744073709551615 →
  0 ≤ x1 → x1 ≤ 18446744073709551615 →
  0 ≤ x2 → x2 ≤ 18446744073709551615 →
  (relsF 12).pre [x0, x1, x2] →
  ∀ r3 : Int, r3 = binFn .mul .u64 x0 18446744073709551615 →
  ∀ r4 : Int, r4 = binFn .and .u64 r3 x2 →
  ∀ r5 : Int, r5 = unFn .xor .u64 r3 →
  ∀ r6 : Int, r6 = binFn .and .u64 r5 x1 →
  ∀ r7 : Int, r7 = binFn .or .u64 r4 r6 →
  (relsF 12).post [x0, x1, x2] [r7]
theorem cmov_cond : Can.cond canCmov Try.prog X2 [] relsF 111 0 = cmov_stmt := by kernel_rfl

theorem cmov_ok : ConOk Try.prog relsF 111 canCmov.con := can_of_cond hX2 hm2 (tab := []) tab_nil 0 (by decide) (by
  rw [cmov_cond]
  intro x0 x1 x2 a0 b0 a1 b1 a2 b2 hp r3 e3 r4 e4 r5 e5 r6 e6 r7 e7
  exact sel_u64 hp.1 hp.2 a2 b2 a1 b1 e3 e4 e5 e6 e7)

def tabL : List (FuncId × Con) := [(108, canMul64.con), (111, canCmov.con)]
theorem tabL_ok : ∀ f con, (f, con) ∈ tabL → ConOk Try.prog relsF f con := tab_cons mul64_ok (tab_cons cmov_ok tab_nil)
theorem mul_comm_F (a b : F) : a * b = b * a := by grind
theorem add_comm_F (a b : F) : a + b = b + a := by grind
theorem bound_add {T A B m : Int} (k : T * 1 = A + B + m * 26959946667150639794667015087019630673557916260026308143510066298881) (hA : 0 ≤ A ∧ A < pI) (hB : 0 ≤ B ∧ B < pI) (hm : m = 0) :
    T < 53919893334301279589334030174039261347115832520052616287020132597762 := by
  subst hm
  obtain ⟨a0, a1⟩ := hA
  obtain ⟨b0, b1⟩ := hB
  simp only [pI] at a1 b1
  omega
end Go.Sx

/- Comparisons of lists of numbers. -/
set_option maxRecDepth 10000
namespace Go.Sx
open Go.FP Go.EC

/-- The number of a list, the highest figure first, behind what went before. -/
def hv (b : Int) : Int → List Int → Int
  | a, [] => a
  | a, x :: l => hv b (a * b + x) l
theorem hv_app (b : Int) : ∀ (l : List Int) (a x : Int), hv b a (l ++ [x]) = hv b a l * b + x
  | [], a, x => rfl
  | y :: l, a, x => hv_app b l (a * b + y) x
theorem hv_rev (b : Int) : ∀ l : List Int, valL b l = hv b 0 l.reverse
  | [] => rfl
  | x :: l => by
    rw [List.reverse_cons, hv_app, ← hv_rev b l, valL, Int.mul_comm, Int.add_comm]
theorem valB_hv (l : List Int) : valB l = hv 256 0 l := by
  unfold valB
  rw [hv_rev, List.reverse_reverse]
theorem hv_lt {b : Int} (hb : 0 < b) : ∀ (l m : List Int) (a c : Int), rng b l → rng b m → l.length = m.length → a < c → hv b a l < hv b c m
  | [], [], a, c, _, _, _, h => h
  | x :: l, y :: m, a, c, hl, hm, hlen, h => by
    refine hv_lt hb l m _ _ hl.2.2 hm.2.2 (by simpa using hlen) ?_
    have h1 := hl.2.1
    have h2 := hm.1
    have h3 : (a + 1) * b ≤ c * b := Int.mul_le_mul_of_nonneg_right h (by omega)
    rw [Int.add_mul] at h3
    omega

theorem isB_mk {r : Int} {q : Prop} (h1 : q → r = 1) (h0 : ¬ q → r = 0) : isB [r] q := ⟨h1, h0⟩

theorem cmp_ite {op : BinOp} {x y r : Int} (e : r = (if cmpFn op x y = true then 1 else 0)) : (r ≠ 0 ↔ cmpFn op x y = true) := by
  rw [e]
  split <;> simp_all

/-- Is the first at most the second? from the highest figure on -/
def lexVC (Q : Int → Prop) : List Int → List Int → Prop
  | x :: xs, y :: ys => ∀ r : Int, r = (if cmpFn .neq x y = true then 1 else 0) →
      (r ≠ 0 → ∀ s : Int, s = (if cmpFn .lss x y = true then 1 else 0) → (s ≠ 0 → Q 1) ∧ (s = 0 → Q 0)) ∧ (r = 0 → lexVC Q xs ys)
  | _, _ => Q 1
theorem lexVC_of {b : Int} (hb : 0 < b) {Q : Int → Prop} : ∀ (l m : List Int) (a : Int), rng b l → rng b m → l.length = m.length →
    (hv b a l ≤ hv b a m → Q 1) → (¬ hv b a l ≤ hv b a m → Q 0) → lexVC Q l m
  | [], [], a, _, _, _, h1, _ => h1 (Int.le_refl _)
  | x :: l, y :: m, a, hl, hm, hlen, h1, h0 => by
    simp only [lexVC]
    intro r e
    have he := cmp_ite e
    refine ⟨fun hr s es => ?_, fun hr => ?_⟩
    · have hs := cmp_ite es
      have hne : x ≠ y := by have := he.1 hr; simpa [cmpFn] using this
      refine ⟨fun h => ?_, fun h => ?_⟩
      · have hlt : x < y := by have := hs.1 h; simpa [cmpFn] using this
        have := hv_lt hb l m (a * b + x) (a * b + y) hl.2.2 hm.2.2 (by simpa using hlen) (by omega)
        exact h1 (by simp only [hv]; omega)
      · have hlt : ¬ x < y := fun k => (hs.2 (by simpa [cmpFn] using k)) h
        have := hv_lt hb m l (a * b + y) (a * b + x) hm.2.2 hl.2.2 (by simpa using hlen.symm) (by omega)
        exact h0 (by simp only [hv]; omega)
    · have hxy : x = y := by
        have : ¬ (cmpFn .neq x y = true) := fun k => he.2 k hr
        simpa [cmpFn] using this
      subst hxy
      exact lexVC_of hb l m (a * b + x) hl.2.2 hm.2.2 (by simpa using hlen) h1 h0

/-- Is the first less than the second? -/
def belVC (Q : Int → Prop) : List Int → List Int → Prop
  | x :: xs, y :: ys => ∀ r : Int, r = (if cmpFn .neq x y = true then 1 else 0) →
      (r ≠ 0 → ∀ s : Int, s = (if cmpFn .lss x y = true then 1 else 0) → Q s) ∧ (r = 0 → belVC Q xs ys)
  | _, _ => Q 0
theorem belVC_of {b : Int} (hb : 0 < b) {Q : Int → Prop} : ∀ (l m : List Int) (a : Int), rng b l → rng b m → l.length = m.length →
    (hv b a l < hv b a m → Q 1) → (¬ hv b a l < hv b a m → Q 0) → belVC Q l m
  | [], [], a, _, _, _, _, h0 => h0 (Int.lt_irrefl _)
  | x :: l, y :: m, a, hl, hm, hlen, h1, h0 => by
    simp only [belVC]
    intro r e
    have he := cmp_ite e
    refine ⟨fun hr s es => ?_, fun hr => ?_⟩
    · have hne : x ≠ y := by have := he.1 hr; simpa [cmpFn] using this
      by_cases hlt : x < y
      · have e1 : s = 1 := by rw [es, if_pos (by simpa [cmpFn] using hlt)]
        have := hv_lt hb l m (a * b + x) (a * b + y) hl.2.2 hm.2.2 (by simpa using hlen) (by omega)
        rw [e1]
        exact h1 (by simp only [hv]; omega)
      · have e1 : s = 0 := by rw [es, if_neg (by simpa [cmpFn] using hlt)]
        have := hv_lt hb m l (a * b + y) (a * b + x) hm.2.2 hl.2.2 (by simpa using hlen.symm) (by omega)
        rw [e1]
        exact h0 (by simp only [hv]; omega)
    · have hxy : x = y := by
        have : ¬ (cmpFn .neq x y = true) := fun k => he.2 k hr
        simpa [cmpFn] using this
      subst hxy
      exact belVC_of hb l m (a * b + x) hl.2.2 hm.2.2 (by simpa using hlen) h1 h0

/-- Are they one? -/
def sameVC (Q : Int → Prop) : List Int → List Int → Prop
  | x :: xs, y :: ys => ∀ r : Int, r = (if cmpFn .neq x y = true then 1 else 0) → (r ≠ 0 → Q 0) ∧ (r = 0 → sameVC Q xs ys)
  | _, _ => Q 1
theorem sameVC_of {Q : Int → Prop} : ∀ (l m : List Int), l.length = m.length → (l = m → Q 1) → (¬ l = m → Q 0) → sameVC Q l m
  | [], [], _, h1, _ => h1 rfl
  | x :: l, y :: m, hlen, h1, h0 => by
    simp only [sameVC]
    intro r e
    have he := cmp_ite e
    refine ⟨fun hr => h0 fun k => ?_, fun hr => ?_⟩
    · have hne : x ≠ y := by have := he.1 hr; simpa [cmpFn] using this
      exact hne (List.cons.inj k).1
    · have hxy : x = y := by
        have : ¬ (cmpFn .neq x y = true) := fun k => he.2 k hr
        simpa [cmpFn] using this
      subst hxy
      exact sameVC_of l m (by simpa using hlen) (fun k => h1 (by rw [k])) (fun k => h0 fun q => k (List.cons.inj q).2)

/-- Bytes compared without a branch. -/
def ctVC (Q : Int → Prop) : Int → List Int → List Int → Prop
  | v, x :: xs, y :: ys => ∀ r : Int, r = binFn .xor .u8 x y → ∀ w : Int, w = binFn .or .u8 v r → ctVC Q w xs ys
  | v, _, _ => ∀ r : Int, r = (if cmpFn .eql v 0 = true then 1 else 0) → (r ≠ 0 → Q 1) ∧ (r = 0 → Q 0)
theorem byte_bv {x : Int} (h0 : 0 ≤ x) (h1 : x < 256) : ((BitVec.ofInt 8 x).toNat : Int) = x := by
  rw [BitVec.toNat_ofInt]
  omega
theorem xor_zero {x y : Int} (x0 : 0 ≤ x) (x1 : x < 256) (y0 : 0 ≤ y) (y1 : y < 256) : 0 ≤ binFn .xor .u8 x y ∧ binFn .xor .u8 x y < 256 ∧ (binFn .xor .u8 x y = 0 ↔ x = y) := by
  have e : binFn .xor .u8 x y = ((BitVec.ofInt 8 x ^^^ BitVec.ofInt 8 y).toNat : Int) := by
    show IntKind.wrap .u8 ((BitVec.ofInt 8 x ^^^ BitVec.ofInt 8 y).toNat : Int) = _
    have := (BitVec.ofInt 8 x ^^^ BitVec.ofInt 8 y).isLt
    rw [wrap_u8]
    omega
  rw [e]
  have hlt := (BitVec.ofInt 8 x ^^^ BitVec.ofInt 8 y).isLt
  refine ⟨by omega, by omega, fun h => ?_, fun h => ?_⟩
  · have h1 : BitVec.ofInt 8 x ^^^ BitVec.ofInt 8 y = 0#8 := BitVec.eq_of_toNat_eq (by simpa using h)
    have h2 : BitVec.ofInt 8 x = BitVec.ofInt 8 y := by
      have h3 : BitVec.ofInt 8 x ^^^ BitVec.ofInt 8 y ^^^ BitVec.ofInt 8 y = 0#8 ^^^ BitVec.ofInt 8 y := by rw [h1]
      rw [BitVec.xor_assoc, BitVec.xor_self, BitVec.xor_zero, BitVec.zero_xor] at h3
      exact h3
    rw [← byte_bv x0 x1, ← byte_bv y0 y1, h2]
  · subst h
    rw [BitVec.xor_self]
    decide
theorem or_zero {x y : Int} (x0 : 0 ≤ x) (x1 : x < 256) (y0 : 0 ≤ y) (y1 : y < 256) : 0 ≤ binFn .or .u8 x y ∧ binFn .or .u8 x y < 256 ∧ (binFn .or .u8 x y = 0 ↔ x = 0 ∧ y = 0) := by
  have e : binFn .or .u8 x y = ((BitVec.ofInt 8 x ||| BitVec.ofInt 8 y).toNat : Int) := by
    show IntKind.wrap .u8 ((BitVec.ofInt 8 x ||| BitVec.ofInt 8 y).toNat : Int) = _
    have := (BitVec.ofInt 8 x ||| BitVec.ofInt 8 y).isLt
    rw [wrap_u8]
    omega
  rw [e]
  have hlt := (BitVec.ofInt 8 x ||| BitVec.ofInt 8 y).isLt
  have hx := byte_bv x0 x1
  have hy := byte_bv y0 y1
  refine ⟨by omega, by omega, fun h => ?_, fun h => ?_⟩
  · have h1 : BitVec.ofInt 8 x ||| BitVec.ofInt 8 y = 0#8 := BitVec.eq_of_toNat_eq (by simpa using h)
    have h2 := BitVec.or_eq_zero_iff.1 h1
    rw [h2.1] at hx
    rw [h2.2] at hy
    exact ⟨hx.symm, hy.symm⟩
  · obtain ⟨rfl, rfl⟩ := h
    decide
theorem ctVC_of {Q : Int → Prop} : ∀ (l m : List Int) (v : Int), 0 ≤ v → v < 256 → rng 256 l → rng 256 m → l.length = m.length → (v = 0 ∧ l = m → Q 1) → (¬ (v = 0 ∧ l = m) → Q 0) → ctVC Q v l m
  | [], [], v, _, _, _, _, _, h1, h0 => by
    simp only [ctVC]
    intro r e
    have he := cmp_ite e
    refine ⟨fun hr => h1 ⟨by have := he.1 hr; simpa [cmpFn] using this, rfl⟩, fun hr => h0 fun k => ?_⟩
    exact he.2 (by simp [cmpFn, k.1]) hr
  | x :: l, y :: m, v, v0, v1, hl, hm, hlen, h1, h0 => by
    simp only [ctVC]
    intro r e w ew
    have hx := xor_zero hl.1 hl.2.1 hm.1 hm.2.1
    rw [← e] at hx
    have ho := or_zero v0 v1 hx.1 hx.2.1
    rw [← ew] at ho
    refine ctVC_of l m w ho.1 ho.2.1 hl.2.2 hm.2.2 (by simpa using hlen) (fun k => ?_) (fun k => ?_)
    · have h3 := ho.2.2.1 k.1
      exact h1 ⟨h3.1, by rw [hx.2.2.1 h3.2, k.2]⟩
    · refine h0 fun q => k ?_
      obtain ⟨q1, q2⟩ := q
      have q3 := List.cons.inj q2
      exact ⟨ho.2.2.2 ⟨q1, hx.2.2.2 q3.1⟩, q3.2⟩
end Go.Sx

/- The canonical states of the reference's contracts. -/
namespace Go.Sx
open Go.Proofs
def crv : AV := .one (.g [.int .i64 224, .int .i64 28, .int .i64 7, .slice 0 0 2 2])
def fold4 : List Sc := [.int .i64 3, .int .i64 1, .int .i64 0, .int .i64 (-1)]
def el (r : Nat) : AV := .one (.s (.sliceU r 0 7))
def sbin (id m : Nat) : Can := { id := id, kinds := ks .i64 14, args := [crv, el 1, el 2], hp := [ro fold4, ro (vs .i64 0 7), ro (vs .i64 7 7)], outs := ks .i64 7, res := .one (.s (.slice 3 0 7 m)), hpE := [fold4, vs .i64 0 7, vs .i64 7 7], new := [vs .i64 14 7] }
def canTimes : Can := sbin 23 14
def canPlus : Can := sbin 24 7
def canMinus : Can := sbin 25 7
def canReduced (m : Nat) : Can := { id := 26, kinds := ks .i64 m, args := [crv, .one (.s (.slice 1 0 m m))], hp := [ro fold4, rw_ (vs .i64 0 m)], outs := ks .i64 7, res := .one (.s (.slice 1 0 7 m)), hpE := [fold4, vs .i64 m 7 ++ (List.range (m - 7)).map fun _ => .und], new := [] }
def canCarried : Can := { id := 27, kinds := ks .i64 7, args := [el 0], hp := [rw_ (vs .i64 0 7)], outs := ks .i64 8, res := .one (.s (.var .i64 14)), hpE := [vs .i64 7 7], new := [] }
def canBelow : Can := { id := 21, kinds := ks .i64 14, args := [el 0, el 1], hp := [ro (vs .i64 0 7), ro (vs .i64 7 7)], outs := [.u8], res := .one (.s (.boolv 14)), hpE := [vs .i64 0 7, vs .i64 7 7], new := [] }
def canSame : Can := { id := 22, kinds := ks .i64 14, args := [el 0, el 1], hp := [ro (vs .i64 0 7), ro (vs .i64 7 7)], outs := [.u8], res := .one (.s (.boolv 14)), hpE := [vs .i64 0 7, vs .i64 7 7], new := [] }
def canNumber : Can := { id := 20, kinds := ks .u8 28, args := [crv, .one (.s (.sliceU 1 0 28))], hp := [ro fold4, ro (vs .u8 0 28)], outs := ks .i64 7, res := .one (.s (.slice 2 0 7 7)), hpE := [fold4, vs .u8 0 28], new := [vs .i64 28 7] }
def canBytes : Can := { id := 28, kinds := ks .i64 7, args := [crv, el 1], hp := [ro fold4, ro (vs .i64 0 7)], outs := ks .u8 28, res := .one (.s (.slice 2 0 28 28)), hpE := [fold4, vs .i64 0 7], new := [vs .u8 7 28] }
def canInverse : Can := { id := 29, kinds := ks .i64 7, args := [crv, el 1], hp := [ro fold4, ro (vs .i64 0 7)], outs := ks .i64 7, res := .one (.s (.slice 2 0 7 14)), hpE := [fold4, vs .i64 0 7], new := [vs .i64 7 7] }
end Go.Sx
