/- Pieces of rows: an element read from bytes, and told as bytes. -/
import Derived.Test.YtkjfcpeabdimmaaS2AffLaw
set_option linter.unusedVariables false
set_option linter.unusedSimpArgs false
set_option linter.constructorNameAsVariable false
set_option maxRecDepth 100000
set_option maxHeartbeats 4000000
namespace Go.Sx
open Go.Proofs Go.FP Go.EC

def c0 : List Int := [0, 0, 0, 0]
def cOne : List Int := [0, 18446744069414584320, 18446744073709551615, 0]
/-- SetBytes of 28 bytes: bad where they are not below the prime. -/
def setVC (b : List Int) (bad : Prop) (K : List Int → Prop) : Prop :=
  callK 10 4 ([0, 0, 0, 0, 18446744069414584320, 18446744073709551615, 0, 0]) fun m => callK 4 4 m fun n => callK 2 28 n fun e => callK 5 1 (b ++ e.reverse) (one1 fun r => ∀ t : Int, t = (if cmpFn .eql r 0 = true then 1 else 0) →
    (t ≠ 0 → bad) ∧ (t = 0 → callK 1 4 b.reverse fun u => callK 3 4 u K))
/-- Bytes of an element. -/
def getVC (e : List Int) (K : List Int → Prop) : Prop := callK 4 4 e fun n => callK 2 28 n fun b => K b.reverse

theorem okMinus : ok64 [0, 0, 0, 0] ∧ ok64 [18446744069414584320, 18446744073709551615, 0, 0] ∧ dec64 [0, 0, 0, 0] = 0 ∧ dec64 [18446744069414584320, 18446744073709551615, 0, 0] = 1 := by
  refine ⟨⟨?_, by decide⟩, ⟨?_, by decide⟩, by decide +kernel, by decide +kernel⟩ <;> (simp only [r64, rng]; decide)
theorem tF_minus : tF (pI - 1) = 0 - 1 := by decide +kernel
theorem valB_nonneg {l : List Int} (h : rng 256 l) : 0 ≤ valB l := rng_nonneg (by decide) (rng_rev h)

theorem set_of {b : List Int} {bad : Prop} {K : List Int → Prop} (hb : rng 256 b) (hl : b.length = 28) (h0 : ¬ valB b < pI → bad) (h1 : valB b < pI → ∀ e : List Int, e.length = 4 → ok64 e → dec64 e = tF (valB b) → K e) : setVC b bad K := by
  refine callK_of ⟨okMinus.1, okMinus.2.1⟩ fun m lm hm => callK_of hm.1 fun n ln hn => callK_of hn.1.2 fun e le he => callK_of trivial fun o lo ho => ?_
  have em : dec64 m = 0 - 1 := by rw [hm.2]; show dec64 [0, 0, 0, 0] - dec64 [18446744069414584320, 18446744073709551615, 0, 0] = _; rw [okMinus.2.2.1, okMinus.2.2.2]
  have en : val64 n = pI - 1 := by
    refine tF_inj (val64_nonneg hn.1.1) hn.1.2 (by decide) (by decide) ?_
    rw [hn.2, em, tF_minus]
  have ee : valB e.reverse = pI - 1 := by
    unfold valB
    rw [List.reverse_reverse, he.2, en]
  match o, lo with
  | [r], _ =>
    have ho' : (valB ((b ++ e.reverse).take 28) ≤ valB ((b ++ e.reverse).drop 28) → r = 1) ∧ (¬ valB ((b ++ e.reverse).take 28) ≤ valB ((b ++ e.reverse).drop 28) → r = 0) := ho
    rw [take_app hl, drop_app hl, ee] at ho'
    intro t et
    have ht := cmp_ite et
    refine ⟨fun h => h0 fun k => ?_, fun h => ?_⟩
    · have := ho'.1 (by omega)
      rw [this] at ht
      exact absurd (ht.1 h) (by decide)
    · have hlt : valB b < pI := by
        apply Classical.byContradiction
        intro k
        have := ho'.2 (by omega)
        rw [this] at ht
        exact ht.2 (by decide) h
      refine callK_of trivial fun u lu hu => ?_
      have eu : val64 u = valB b := hu.2
      refine callK_of (by show val64 u < pI; rw [eu]; exact hlt) fun e' le' he' => h1 hlt e' le' he'.1 ?_
      rw [he'.2, eu]

theorem get_of {e : List Int} {K : List Int → Prop} (he : ok64 e) (h : ∀ b : List Int, b.length = 28 → rng 256 b → valB b < pI → tF (valB b) = dec64 e → K b) : getVC e K := by
  refine callK_of he fun n ln hn => callK_of hn.1.2 fun b lb hb => ?_
  have eb : valB b.reverse = val64 n := by
    unfold valB
    rw [List.reverse_reverse]
    exact hb.2
  exact h _ (by simpa using lb) (rng_rev hb.1) (by rw [eb]; exact hn.1.2) (by rw [eb]; exact hn.2)
/-- What is told is what was read. -/
theorem bytes_eq {b c : List Int} (hb : rng 256 b) (hc : rng 256 c) (hl : b.length = c.length) (vb : valB b < pI) (vc : valB c < pI) (e : tF (valB b) = tF (valB c)) : b = c := by
  have h1 := tF_inj (valB_nonneg hb) vb (valB_nonneg hc) vc e
  have h2 := valL_inj (b := 256) (by decide) (rng_rev hb) (rng_rev hc) (by simpa using hl) h1
  exact List.reverse_inj.1 h2
end Go.Sx

/- Runs of field operations, each by its contract; and the same run over the field. -/
namespace Go.Sx
open Go.Proofs Go.FP Go.EC

def nth {α : Type} (z : α) : List α → Nat → α
  | [], _ => z
  | a :: _, 0 => a
  | _ :: l, n + 1 => nth z l n
def putL {α : Type} : List α → Nat → α → List α
  | [], _, _ => []
  | _ :: l, 0, b => b :: l
  | a :: l, n + 1, b => a :: putL l n b
theorem All2.nth {α β : Type} {R : α → β → Prop} {z : α} {z' : β} (hz : R z z') : ∀ {l : List α} {m : List β}, All2 R l m → ∀ i, R (nth z l i) (nth z' m i)
  | [], [], _, _ => hz
  | _ :: _, _ :: _, h, 0 => h.1
  | _ :: _, _ :: _, h, i + 1 => h.2.nth hz i
theorem All2.put {α β : Type} {R : α → β → Prop} {a : α} {b : β} (hab : R a b) : ∀ {l : List α} {m : List β}, All2 R l m → ∀ i, All2 R (putL l i a) (putL m i b)
  | [], [], _, _ => trivial
  | _ :: _, _ :: _, h, 0 => ⟨hab, h.2⟩
  | _ :: _, _ :: _, h, i + 1 => ⟨h.1, h.2.put hab i⟩

/-- An operation: its code; the places of the result and of the inputs. 0: product · 1: square · 2: sum · 3: twice · 4: difference · 5: the other difference · 6: the curve's b · else: two orders that come to the same. -/
abbrev Fop := Nat × Nat × Nat × Nat
def fopVC (K : List (List Int) → Prop) : List Fop → List (List Int) → Prop
  | [], s => K s
  | (c, d, i, j) :: l, s => match c with
    | 0 => callK 6 4 (nth c0 s i ++ nth c0 s j) fun o => fopVC K l (putL s d o)
    | 1 => callK 7 4 (nth c0 s i) fun o => fopVC K l (putL s d o)
    | 2 => callK 8 4 (nth c0 s i ++ nth c0 s j) fun o => fopVC K l (putL s d o)
    | 3 => callK 9 4 (nth c0 s i) fun o => fopVC K l (putL s d o)
    | 4 => callK 10 4 (nth c0 s i ++ nth c0 s j) fun o => fopVC K l (putL s d o)
    | 5 => callK 11 4 (nth c0 s i ++ nth c0 s j) fun o => fopVC K l (putL s d o)
    | 6 => callK 16 4 [] fun o => fopVC K l (putL s d o)
    | _ => fopVC K l s ∧ fopVC K l s
def fopG {n : Nat} [NeZero n] (b : Fin n) : List Fop → List (Fin n) → List (Fin n)
  | [], s => s
  | (c, d, i, j) :: l, s => match c with
    | 0 => fopG b l (putL s d (nth 0 s i * nth 0 s j))
    | 1 => fopG b l (putL s d (nth 0 s i * nth 0 s i))
    | 2 => fopG b l (putL s d (nth 0 s i + nth 0 s j))
    | 3 => fopG b l (putL s d (nth 0 s i + nth 0 s i))
    | 4 => fopG b l (putL s d (nth 0 s i - nth 0 s j))
    | 5 => fopG b l (putL s d (nth 0 s j - nth 0 s i))
    | 6 => fopG b l (putL s d b)
    | _ => fopG b l s

/-- The element's words stand for the number. -/
structure Elt (e : List Int) (x : F) : Prop where
  len : e.length = 4
  ok : ok64 e
  dec : dec64 e = x
theorem elt0 : Elt c0 0 := ⟨rfl, okMinus.1, okMinus.2.2.1⟩
theorem call4_2 (id : Nat) (f : F → F → F) (e : relsF id = op2 f) {a b : List Int} {x y : F} {K : List Int → Prop} (ha : Elt a x) (hb : Elt b y) (h : ∀ o, Elt o (f x y) → K o) : callK id 4 (a ++ b) K := by
  unfold callK
  rw [e]
  refine ⟨⟨by rw [take_app ha.len]; exact ha.ok, by rw [drop_app ha.len]; exact hb.ok⟩, alln_len 4 fun o hl hp => h o ⟨hl, hp.1, ?_⟩⟩
  have := hp.2
  rw [take_app ha.len, drop_app ha.len, ha.dec, hb.dec] at this
  exact this
theorem call4_1 (id : Nat) (f : F → F) (e : relsF id = op1 f) {a : List Int} {x : F} {K : List Int → Prop} (ha : Elt a x) (h : ∀ o, Elt o (f x) → K o) : callK id 4 a K := by
  unfold callK
  rw [e]
  refine ⟨ha.ok, alln_len 4 fun o hl hp => h o ⟨hl, hp.1, ?_⟩⟩
  have := hp.2
  rw [ha.dec] at this
  exact this
theorem call4_b {K : List Int → Prop} (h : ∀ o, Elt o bF → K o) : callK 16 4 [] K := callK_of trivial fun o hl hp => h o ⟨hl, hp.1, hp.2⟩

theorem fop_of {K : List (List Int) → Prop} : ∀ (l : List Fop) (s : List (List Int)) (f : List F), All2 Elt s f → (∀ s', All2 Elt s' (fopG bF l f) → K s') → fopVC K l s
  | [], s, f, hs, h => h s hs
  | (0, d, i, j) :: l, s, f, hs, h => call4_2 6 _ rfl (hs.nth elt0 i) (hs.nth elt0 j) fun o ho => fop_of l _ _ (hs.put ho d) h
  | (1, d, i, j) :: l, s, f, hs, h => call4_1 7 (fun a => a * a) rfl (hs.nth elt0 i) fun o ho => fop_of l _ _ (hs.put ho d) h
  | (2, d, i, j) :: l, s, f, hs, h => call4_2 8 _ rfl (hs.nth elt0 i) (hs.nth elt0 j) fun o ho => fop_of l _ _ (hs.put ho d) h
  | (3, d, i, j) :: l, s, f, hs, h => call4_1 9 (fun a => a + a) rfl (hs.nth elt0 i) fun o ho => fop_of l _ _ (hs.put ho d) h
  | (4, d, i, j) :: l, s, f, hs, h => call4_2 10 _ rfl (hs.nth elt0 i) (hs.nth elt0 j) fun o ho => fop_of l _ _ (hs.put ho d) h
  | (5, d, i, j) :: l, s, f, hs, h => call4_2 11 (fun a b => b - a) rfl (hs.nth elt0 i) (hs.nth elt0 j) fun o ho => fop_of l _ _ (hs.put ho d) h
  | (6, d, i, j) :: l, s, f, hs, h => call4_b fun o ho => fop_of l _ _ (hs.put ho d) h
  | (_ + 7, d, i, j) :: l, s, f, hs, h => ⟨fop_of l s f hs h, fop_of l s f hs h⟩

/-- The k-th element of four words. -/
def el4 (l : List Int) (k : Nat) : List Int := (l.drop (4 * k)).take 4
def ok3 (l : List Int) (k : Nat) : Prop := ok64 (el4 l k) ∧ ok64 (el4 l (k + 1)) ∧ ok64 (el4 l (k + 2))
def tri3 (l : List Int) (k : Nat) : Tri p := ⟨dec64 (el4 l k), dec64 (el4 l (k + 1)), dec64 (el4 l (k + 2))⟩
theorem el4_len {l : List Int} {k : Nat} (h : 4 * k + 4 ≤ l.length) : (el4 l k).length = 4 := by simp [el4]; omega
theorem elt_of {l : List Int} {k : Nat} (h : 4 * k + 4 ≤ l.length) (ho : ok64 (el4 l k)) : Elt (el4 l k) (dec64 (el4 l k)) := ⟨el4_len h, ho, rfl⟩
theorem el4_3 {a b c : List Int} (ha : a.length = 4) (hb : b.length = 4) (hc : c.length = 4) : el4 (a ++ b ++ c) 0 = a ∧ el4 (a ++ b ++ c) 1 = b ∧ el4 (a ++ b ++ c) 2 = c := by
  refine ⟨?_, ?_, ?_⟩
  · simp only [el4, Nat.mul_zero, List.drop_zero, List.append_assoc]
    exact take_app ha
  · simp only [el4, List.append_assoc]
    rw [drop_app (by simpa using ha), take_app hb]
  · simp only [el4]
    rw [drop_app (by simp [ha, hb]), List.take_of_length_le (by omega)]
theorem tri_of {a b c : List Int} {x y z : F} (ha : Elt a x) (hb : Elt b y) (hc : Elt c z) : ok3 (a ++ b ++ c) 0 ∧ tri3 (a ++ b ++ c) 0 = ⟨x, y, z⟩ := by
  obtain ⟨e1, e2, e3⟩ := el4_3 ha.len hb.len hc.len
  refine ⟨⟨?_, ?_, ?_⟩, ?_⟩
  · rw [e1]; exact ha.ok
  · rw [e2]; exact hb.ok
  · rw [e3]; exact hc.ok
  · simp only [tri3, Nat.zero_add, e1, e2, e3, ha.dec, hb.dec, hc.dec]

/-! ### The sum and the double of points -/
-- registers: 0-2 the first point, 3-5 the second one, 6-10 t0-t4, 11-13 x3 y3 z3, 14 b
def addOps : List Fop := [(0, 6, 0, 3), (0, 7, 1, 4), (0, 8, 2, 5), (2, 9, 0, 1), (2, 10, 3, 4), (0, 9, 9, 10), (2, 10, 6, 7), (4, 9, 9, 10), (2, 10, 1, 2), (2, 11, 4, 5), (0, 10, 10, 11), (2, 11, 7, 8), (4, 10, 10, 11),
  (2, 11, 0, 2), (2, 12, 3, 5), (0, 11, 11, 12), (2, 12, 6, 8), (5, 12, 12, 11), (6, 14, 0, 0), (0, 13, 14, 8), (4, 11, 12, 13), (2, 13, 11, 11), (2, 11, 11, 13), (4, 13, 7, 11), (2, 11, 11, 7),
  (6, 14, 0, 0), (0, 12, 12, 14), (2, 7, 8, 8), (2, 8, 8, 7), (4, 12, 12, 8), (4, 12, 12, 6), (2, 7, 12, 12), (2, 12, 12, 7), (2, 7, 6, 6), (2, 6, 6, 7), (4, 6, 6, 8), (0, 7, 10, 12), (0, 8, 6, 12), (0, 12, 11, 13), (2, 12, 12, 8),
  (0, 11, 11, 9), (4, 11, 11, 7), (0, 13, 13, 10), (0, 7, 9, 6), (2, 13, 13, 7)]
-- registers: 0-2 the point, 3-6 t0-t3, 7 z3, 8 y3, 9 x3, 10 b
def dblOps : List Fop := [(1, 3, 0, 0), (1, 4, 1, 1), (1, 5, 2, 2), (0, 6, 0, 1), (3, 6, 6, 6), (0, 7, 0, 2), (3, 7, 7, 7), (6, 10, 0, 0), (0, 8, 10, 5), (4, 8, 8, 7), (2, 9, 8, 8), (2, 8, 8, 9), (4, 9, 4, 8), (2, 8, 8, 4), (0, 8, 8, 9), (0, 9, 9, 6),
  (2, 6, 5, 5), (2, 5, 5, 6), (6, 10, 0, 0), (0, 7, 7, 10), (4, 7, 7, 5), (4, 7, 7, 3), (2, 6, 7, 7), (2, 7, 7, 6), (2, 6, 3, 3), (2, 3, 3, 6), (4, 3, 3, 5), (0, 3, 3, 7), (2, 8, 8, 3), (0, 3, 1, 2), (3, 3, 3, 3), (0, 7, 7, 3), (4, 9, 9, 7), (0, 7, 3, 4), (3, 7, 7, 7), (3, 7, 7, 7)]
section
variable {n : Nat} [NeZero n]
theorem add_alg (b x1 y1 z1 x2 y2 z2 : Fin n) : let s := fopG b addOps [x1, y1, z1, x2, y2, z2, 0, 0, 0, 0, 0, 0, 0, 0, 0]
    (⟨nth 0 s 11, nth 0 s 12, nth 0 s 13⟩ : Tri n) = cadd b ⟨x1, y1, z1⟩ ⟨x2, y2, z2⟩ := by
  simp only [addOps, fopG, putL, nth, cadd, Tri.mk.injEq]
  refine ⟨?_, ?_, ?_⟩ <;> grind
/-- The curve's equation, for three coordinates. -/
def onT (b : Fin n) (T : Tri n) : Prop := T.y * T.y * T.z = T.x * T.x * T.x - 3 * T.x * T.z * T.z + b * T.z * T.z * T.z
theorem dbl_alg (b x y z : Fin n) (h : onT b ⟨x, y, z⟩) : let s := fopG b dblOps [x, y, z, 0, 0, 0, 0, 0, 0, 0, 0]
    (⟨nth 0 s 9, nth 0 s 8, nth 0 s 7⟩ : Tri n) = cadd b ⟨x, y, z⟩ ⟨x, y, z⟩ := by
  simp only [onT] at h
  simp only [dblOps, fopG, putL, nth, cadd, Tri.mk.injEq]
  refine ⟨?_, ?_, ?_⟩ <;> grind
theorem Rep.onT {b : Fin n} {T : Tri n} : ∀ {P : Pt n}, Rep b T P → onT b T
  | none, ⟨h1, h2, h3⟩ => by
    simp only [Go.Sx.onT]
    rw [h1, h2]
    grind
  | some (x, y), ⟨h1, h2, h3, h4⟩ => by
    simp only [Go.Sx.onT]
    rw [h2, h3]
    unfold rhs at h4
    grind
end

def relPAdd : RelSpec := { pre := fun i => ok3 i 0 ∧ ok3 i 3, post := fun i o => ok3 o 0 ∧ tri3 o 0 = cadd bF (tri3 i 0) (tri3 i 3) }
def relPDbl : RelSpec := { pre := fun i => ok3 i 0 ∧ onT bF (tri3 i 0), post := fun i o => ok3 o 0 ∧ tri3 o 0 = cadd bF (tri3 i 0) (tri3 i 0) }
/-- 63: the sum, 64: the double. -/
def relsP (n : Nat) : RelSpec := if n = 63 then relPAdd else if n = 64 then relPDbl else relsF n
theorem relsP_F {n : Nat} (h : n < 63) : relsP n = relsF n := by
  unfold relsP
  rw [if_neg (by omega), if_neg (by omega)]

def sp (r : Nat) : Reg := ro [.ptr r 0, .ptr (r + 1) 0, .ptr (r + 2) 0]
def canPAdd : Can := { id := 63, kinds := ks .u64 24, args := [pt 0, pt 4, pt 8], hp := [sp 1, rw_ (us 4), rw_ (us 4), rw_ (us 4), sp 5, ro (vs .u64 0 4), ro (vs .u64 4 4), ro (vs .u64 8 4), sp 9, ro (vs .u64 12 4), ro (vs .u64 16 4), ro (vs .u64 20 4)], outs := ks .u64 12, res := pt 0, hpE := [(sp 1).cs, vs .u64 24 4, vs .u64 28 4, vs .u64 32 4, (sp 5).cs, vs .u64 0 4, vs .u64 4 4, vs .u64 8 4, (sp 9).cs, vs .u64 12 4, vs .u64 16 4, vs .u64 20 4], new := [] }
def canPAddI : Can := { id := 63, kinds := ks .u64 24, args := [pt 0, pt 0, pt 4], hp := [sp 1, rw_ (vs .u64 0 4), rw_ (vs .u64 4 4), rw_ (vs .u64 8 4), sp 5, ro (vs .u64 12 4), ro (vs .u64 16 4), ro (vs .u64 20 4)], outs := ks .u64 12, res := pt 0, hpE := [(sp 1).cs, vs .u64 24 4, vs .u64 28 4, vs .u64 32 4, (sp 5).cs, vs .u64 12 4, vs .u64 16 4, vs .u64 20 4], new := [] }
def canPDbl : Can := { id := 64, kinds := ks .u64 12, args := [pt 0, pt 4], hp := [sp 1, rw_ (us 4), rw_ (us 4), rw_ (us 4), sp 5, ro (vs .u64 0 4), ro (vs .u64 4 4), ro (vs .u64 8 4)], outs := ks .u64 12, res := pt 0, hpE := [(sp 1).cs, vs .u64 12 4, vs .u64 16 4, vs .u64 20 4, (sp 5).cs, vs .u64 0 4, vs .u64 4 4, vs .u64 8 4], new := [] }
def canPDblI : Can := { id := 64, kinds := ks .u64 12, args := [pt 0, pt 0], hp := [sp 1, rw_ (vs .u64 0 4), rw_ (vs .u64 4 4), rw_ (vs .u64 8 4)], outs := ks .u64 12, res := pt 0, hpE := [(sp 1).cs, vs .u64 12 4, vs .u64 16 4, vs .u64 20 4], new := [] }
def canB : Can := { id := 16, kinds := [], args := [], hp := [], outs := ks .u64 4, res := pt 0, hpE := [], new := [vs .u64 0 4] }
end Go.Sx
