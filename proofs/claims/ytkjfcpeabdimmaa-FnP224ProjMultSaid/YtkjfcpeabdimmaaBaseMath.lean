/- The curve y^2 = x^3 - 3x + b over a field of numbers modulo n: the sum by chord and tangent, and the complete formulas for three coordinates. -/

set_option linter.unusedVariables false
set_option linter.unusedSimpArgs false
set_option linter.constructorNameAsVariable false
namespace Go.EC

variable {n : Nat} [NeZero n]

structure Tri (n : Nat) where
  x : Fin n
  y : Fin n
  z : Fin n

/-- The complete sum of three coordinates. -/
def cadd (b : Fin n) (P Q : Tri n) : Tri n :=
  let xx := P.x * Q.x
  let yy := P.y * Q.y
  let zz := P.z * Q.z
  let xy := P.x * Q.y + Q.x * P.y
  let yz := P.y * Q.z + Q.y * P.z
  let xz := P.x * Q.z + Q.x * P.z
  let u := 3 * (xz - b * zz)
  let m := yy - u
  let n := yy + u
  let v := 3 * (b * xz - 3 * zz - xx)
  let w := 3 * xx - 3 * zz
  ⟨xy * n - yz * v, n * m + w * v, yz * m + xy * w⟩

/-- The curve's polynomial. -/
def rhs (b x : Fin n) : Fin n := x * x * x - 3 * x + b

/-- A point: none is the one infinitely far. -/
abbrev Pt (n : Nat) := Option (Fin n × Fin n)
def On (b : Fin n) : Pt n → Prop
  | none => True
  | some (x, y) => y * y = rhs b x

def chord (x1 y1 x2 y2 s : Fin n) : Pt n :=
  some (s * s - x1 - x2, s * (x1 - (s * s - x1 - x2)) - y1)

/-- The sum by chord and tangent; iv gives inverses. -/
def asum (iv : Fin n → Fin n) : Pt n → Pt n → Pt n
  | none, Q => Q
  | P, none => P
  | some (x1, y1), some (x2, y2) =>
    if x1 ≠ x2 then chord x1 y1 x2 y2 ((y2 - y1) * iv (x2 - x1))
    else if y1 ≠ y2 ∨ y1 = 0 then none
    else chord x1 y1 x2 y2 ((3 * (x1 * x1) - 3) * iv (y1 + y1))

/-- Three coordinates stand for a point. -/
def Rep (b : Fin n) (T : Tri n) : Pt n → Prop
  | none => T.x = 0 ∧ T.z = 0 ∧ T.y ≠ 0
  | some (x, y) => T.z ≠ 0 ∧ T.x = x * T.z ∧ T.y = y * T.z ∧ y * y = rhs b x

/-- A field; no point of order two; two is not zero. -/
structure Good (b : Fin n) (iv : Fin n → Fin n) : Prop where
  one : (0 : Fin n) ≠ 1
  inv : ∀ a : Fin n, a ≠ 0 → a * iv a = 1
  two : (2 : Fin n) ≠ 0
  root : ∀ x : Fin n, rhs b x ≠ 0

section
variable {b : Fin n} {iv : Fin n → Fin n}

theorem mul_ne (g : Good b iv) {a c : Fin n} (ha : a ≠ 0) (hb : c ≠ 0) : a * c ≠ 0 := by
  intro h
  have h1 := g.inv a ha
  exact hb (by grind)
theorem eq_of_mul (g : Good b iv) {a x y : Fin n} (ha : a ≠ 0) (h : x * a = y * a) : x = y := by
  have h1 := g.inv a ha
  grind

theorem on_ne {x y : Fin n} (g : Good b iv) (h : y * y = rhs b x) : y ≠ 0 := by
  intro e
  exact g.root x (by rw [← h, e]; grind)

/-- The chord's third point lies on the curve. -/
theorem chord_on {x1 y1 x2 y2 s : Fin n} (g : Good b iv) (h1 : y1 * y1 = rhs b x1) (h2 : y2 * y2 = rhs b x2) (hx : x1 ≠ x2) (hs : s * (x2 - x1) = y2 - y1) : On b (chord x1 y1 x2 y2 s) := by
  show (s * (x1 - (s * s - x1 - x2)) - y1) * (s * (x1 - (s * s - x1 - x2)) - y1) = rhs b (s * s - x1 - x2)
  have hd : x2 - x1 ≠ 0 := fun h => hx (by grind)
  refine eq_of_mul g hd ?_
  unfold rhs at *
  clear hd hx
  grind
theorem tangent_on {x1 y1 s : Fin n} (h1 : y1 * y1 = rhs b x1) (hs : s * (y1 + y1) = 3 * (x1 * x1) - 3) : On b (chord x1 y1 x1 y1 s) := by
  show (s * (x1 - (s * s - x1 - x1)) - y1) * (s * (x1 - (s * s - x1 - x1)) - y1) = rhs b (s * s - x1 - x1)
  unfold rhs at *
  grind

theorem inv_mul_eq (g : Good b iv) {a d : Fin n} (hd : d ≠ 0) : a * iv d * d = a := by
  have := g.inv d hd
  grind

theorem asum_on (g : Good b iv) : ∀ {P Q : Pt n}, On b P → On b Q → On b (asum iv P Q)
  | none, Q, _, h => by cases Q <;> exact h
  | some (x1, y1), none, h, _ => h
  | some (x1, y1), some (x2, y2), h1, h2 => by
    simp only [asum]
    split
    · rename_i hx
      exact chord_on g h1 h2 hx (inv_mul_eq g fun h => hx (by grind))
    · rename_i hx
      split
      · trivial
      · rename_i hy
        have e1 : x1 = x2 := Classical.not_not.1 hx
        have e2 : y1 = y2 := Classical.not_not.1 fun h => hy (.inl h)
        subst e1 e2
        refine tangent_on h1 (inv_mul_eq g fun h => ?_)
        have : (2 : Fin n) * y1 = 0 := by grind
        exact mul_ne g g.two (on_ne g h1) this
end
end Go.EC

/- The complete formulas give the sum. -/
namespace Go.EC
variable {n : Nat} [NeZero n]

def tri (x y z : Fin n) : Tri n := ⟨x, y, z⟩
def Tri.smul (k : Fin n) (T : Tri n) : Tri n := ⟨k * T.x, k * T.y, k * T.z⟩

section
variable {b : Fin n} {iv : Fin n → Fin n}
theorem cadd_smul (b k l : Fin n) (P Q : Tri n) : cadd b (P.smul k) (Q.smul l) = (cadd b P Q).smul (k * k * (l * l)) := by
  simp only [cadd, Tri.smul, Tri.mk.injEq]
  refine ⟨?_, ?_, ?_⟩ <;> grind

theorem Rep.smul (g : Good b iv) {k : Fin n} {T : Tri n} (hk : k ≠ 0) : ∀ {P : Pt n}, Rep b T P → Rep b (T.smul k) P
  | none, ⟨h1, h2, h3⟩ => ⟨by simp only [Tri.smul]; rw [h1]; grind, by simp only [Tri.smul]; rw [h2]; grind, mul_ne g hk h3⟩
  | some (x, y), ⟨h1, h2, h3, h4⟩ => ⟨mul_ne g hk h1, by simp only [Tri.smul]; rw [h2]; grind, by simp only [Tri.smul]; rw [h3]; grind, h4⟩

/-- The plain three coordinates of a point. -/
def norm : Pt n → Tri n
  | none => ⟨0, 1, 0⟩
  | some (x, y) => ⟨x, y, 1⟩

theorem rep_norm (g : Good b iv) : ∀ {P : Pt n}, On b P → Rep b (norm P) P
  | none, _ => ⟨rfl, rfl, fun h => g.one h.symm⟩
  | some (x, y), h => ⟨fun h => g.one h.symm, by simp only [norm]; grind, by simp only [norm]; grind, h⟩

theorem Rep.norm_eq {T : Tri n} : ∀ {P : Pt n}, Rep b T P → ∃ k, k ≠ 0 ∧ T = (norm P).smul k
  | none, ⟨h1, h2, h3⟩ => ⟨T.y, h3, by
    cases T
    simp only [norm, Tri.smul] at *
    subst h1 h2
    simp only [Tri.mk.injEq]
    refine ⟨?_, ?_, ?_⟩ <;> grind⟩
  | some (x, y), ⟨h1, h2, h3, h4⟩ => ⟨T.z, h1, by
    cases T
    simp only [norm, Tri.smul, Tri.mk.injEq] at *
    refine ⟨?_, ?_, ?_⟩ <;> grind⟩
theorem Rep.on {T : Tri n} : ∀ {P : Pt n}, Rep b T P → On b P
  | none, _ => trivial
  | some _, h => h.2.2.2
end

theorem gen_X {b x1 y1 x2 y2 : Fin n} (h1 : y1 * y1 = rhs b x1) (h2 : y2 * y2 = rhs b x2) :
    (cadd b ⟨x1, y1, 1⟩ ⟨x2, y2, 1⟩).x * ((x2 - x1) * (x2 - x1)) = ((y2 - y1) * (y2 - y1) - (x1 + x2) * ((x2 - x1) * (x2 - x1))) * (cadd b ⟨x1, y1, 1⟩ ⟨x2, y2, 1⟩).z := by
  simp only [cadd]
  unfold rhs at *
  grind
theorem gen_Y {b x1 y1 x2 y2 : Fin n} (h1 : y1 * y1 = rhs b x1) (h2 : y2 * y2 = rhs b x2) :
    (cadd b ⟨x1, y1, 1⟩ ⟨x2, y2, 1⟩).y * ((x2 - x1) * (x2 - x1) * (x2 - x1)) =
      ((y2 - y1) * (x1 * ((x2 - x1) * (x2 - x1)) - ((y2 - y1) * (y2 - y1) - (x1 + x2) * ((x2 - x1) * (x2 - x1)))) - y1 * ((x2 - x1) * (x2 - x1) * (x2 - x1))) * (cadd b ⟨x1, y1, 1⟩ ⟨x2, y2, 1⟩).z := by
  simp only [cadd]
  unfold rhs at *
  grind
/-- The third coordinate is that of the difference's second one. -/
theorem gen_Z {b x1 y1 x2 y2 : Fin n} (h1 : y1 * y1 = rhs b x1) (h2 : y2 * y2 = rhs b x2) :
    (cadd b ⟨x1, y1, 1⟩ ⟨x2, y2, 1⟩).z =
      (-y2 - y1) * (x1 * ((x2 - x1) * (x2 - x1)) - ((-y2 - y1) * (-y2 - y1) - (x1 + x2) * ((x2 - x1) * (x2 - x1)))) - y1 * ((x2 - x1) * (x2 - x1) * (x2 - x1)) := by
  simp only [cadd]
  unfold rhs at *
  grind
end Go.EC

/- Polynomials as lists of coefficients, and as pairs over a square root; the sum's law of three, by calculation. -/
namespace Go.EC

structure Alg (R : Type) where
  add : R → R → R
  mul : R → R → R
  neg : R → R
  zero : R
  isZ : R → Bool

structure Sem {n : Nat} [NeZero n] {R : Type} (A : Alg R) (ev : R → Fin n) : Prop where
  add : ∀ a b, ev (A.add a b) = ev a + ev b
  mul : ∀ a b, ev (A.mul a b) = ev a * ev b
  neg : ∀ a, ev (A.neg a) = - ev a
  zero : ev A.zero = 0
  isZ : ∀ a, A.isZ a = true → ev a = 0

section
variable {n : Nat} [NeZero n] {R : Type}

def intAlg : Alg Int := ⟨fun a b => a + b, fun a b => a * b, fun a => -a, 0, fun a => a == 0⟩
/-- A whole number modulo n. -/
def toF (n : Nat) [NeZero n] (z : Int) : Fin n := Fin.ofNat n (z % (n : Int)).toNat
theorem npos (n : Nat) [h : NeZero n] : (0 : Int) < n := by have := Nat.pos_of_ne_zero h.out; omega
theorem toF_val (z : Int) : (((toF n z).val : Nat) : Int) = z % n := by
  have h0 := npos n
  have h1 := Int.emod_nonneg z (show (n : Int) ≠ 0 by omega)
  have h2 := Int.emod_lt_of_pos z h0
  show (((z % (n : Int)).toNat % n : Nat) : Int) = _
  rw [Nat.mod_eq_of_lt (by omega), Int.toNat_of_nonneg h1]
omit [NeZero n] in
theorem fin_ext {a c : Fin n} (h : ((a.val : Nat) : Int) = c.val) : a = c := Fin.ext (by omega)
theorem toF_add (a c : Int) : toF n (a + c) = toF n a + toF n c := by
  apply fin_ext
  rw [toF_val, Fin.val_add, Int.natCast_emod, Int.natCast_add, toF_val, toF_val]
  simp
theorem toF_mul (a c : Int) : toF n (a * c) = toF n a * toF n c := by
  apply fin_ext
  rw [toF_val, Fin.val_mul, Int.natCast_emod, Int.natCast_mul, toF_val, toF_val]
  simp [Int.mul_emod]
theorem toF_zero : toF n 0 = 0 := by
  apply fin_ext
  rw [toF_val]
  simp
theorem toF_neg (a : Int) : toF n (-a) = - toF n a := by
  have h := toF_add (n := n) a (-a)
  rw [Int.add_right_neg, toF_zero] at h
  grind
theorem toF_sub (a c : Int) : toF n (a - c) = toF n a - toF n c := by
  rw [Int.sub_eq_add_neg, toF_add, toF_neg]
  grind
theorem toF_one : toF n 1 = 1 := by
  apply fin_ext
  rw [toF_val]
  show (1 : Int) % n = ((1 % n : Nat) : Int)
  simp
theorem toF_eq {a c : Int} : toF n a = toF n c ↔ a % n = c % n := by
  constructor
  · intro h
    rw [← toF_val, ← toF_val, h]
  · intro h
    apply fin_ext
    rw [toF_val, toF_val, h]
theorem intSem : Sem intAlg (toF n) :=
  ⟨toF_add, toF_mul, toF_neg, toF_zero, fun a h => by
    have : a = 0 := by simpa [intAlg] using h
    subst this
    exact toF_zero⟩

def addL (A : Alg R) : List R → List R → List R
  | [], q => q
  | p, [] => p
  | a :: p, b :: q => A.add a b :: addL A p q
def scaleL (A : Alg R) (a : R) : List R → List R
  | [] => []
  | b :: q => A.mul a b :: scaleL A a q
def negL (A : Alg R) : List R → List R
  | [] => []
  | b :: q => A.neg b :: negL A q
def mulL (A : Alg R) : List R → List R → List R
  | [], _ => []
  | a :: p, q => if A.isZ a then A.zero :: mulL A p q else addL A (scaleL A a q) (A.zero :: mulL A p q)
def isZL (A : Alg R) : List R → Bool
  | [] => true
  | a :: p => A.isZ a && isZL A p
def listAlg (A : Alg R) : Alg (List R) := ⟨addL A, mulL A, negL A, [], isZL A⟩
def evL (ev : R → Fin n) (x : Fin n) : List R → Fin n
  | [] => 0
  | a :: p => ev a + x * evL ev x p

theorem listSem {A : Alg R} {ev : R → Fin n} (h : Sem A ev) (x : Fin n) : Sem (listAlg A) (evL ev x) := by
  have hadd : ∀ a b : List R, evL ev x (addL A a b) = evL ev x a + evL ev x b := by
    intro a
    induction a with
    | nil => intro b; simp only [addL, evL]; grind
    | cons a p ih =>
      intro b
      cases b with
      | nil => simp only [addL, evL]; grind
      | cons b q => simp only [addL, evL, h.add, ih]; grind
  have hscale : ∀ (a : R) (q : List R), evL ev x (scaleL A a q) = ev a * evL ev x q := by
    intro a q
    induction q with
    | nil => simp only [scaleL, evL]; grind
    | cons b q ih => simp only [scaleL, evL, h.mul, ih]; grind
  refine ⟨hadd, ?_, ?_, rfl, ?_⟩
  · intro a b
    show evL ev x (mulL A a b) = _
    induction a with
    | nil => simp only [mulL, evL]; grind
    | cons a p ih =>
      simp only [mulL]
      split
      · rename_i hz
        simp only [evL, h.zero, ih, h.isZ a hz]; grind
      · simp only [hadd, hscale, evL, h.zero, ih]; grind
  · intro a
    show evL ev x (negL A a) = _
    induction a with
    | nil => simp only [negL, evL]; grind
    | cons a p ih => simp only [negL, evL, h.neg, ih]; grind
  · intro a
    show isZL A a = true → _
    induction a with
    | nil => intro _; rfl
    | cons a p ih =>
      intro hz
      simp only [isZL, Bool.and_eq_true] at hz
      simp only [evL, h.isZ a hz.1, ih hz.2]; grind

def pairAlg (A : Alg R) (f : R) : Alg (R × R) :=
  ⟨fun a b => (A.add a.1 b.1, A.add a.2 b.2), fun a b => (A.add (A.mul a.1 b.1) (A.mul f (A.mul a.2 b.2)), A.add (A.mul a.1 b.2) (A.mul a.2 b.1)),
   fun a => (A.neg a.1, A.neg a.2), (A.zero, A.zero), fun a => A.isZ a.1 && A.isZ a.2⟩
def evP (ev : R → Fin n) (y : Fin n) (a : R × R) : Fin n := ev a.1 + ev a.2 * y
theorem pairSem {A : Alg R} {ev : R → Fin n} (h : Sem A ev) {f : R} {y : Fin n} (hy : y * y = ev f) : Sem (pairAlg A f) (evP ev y) := by
  refine ⟨?_, ?_, ?_, ?_, ?_⟩
  · intro a b; simp only [pairAlg, evP, h.add]; grind
  · intro a b; simp only [pairAlg, evP, h.add, h.mul]; grind
  · intro a; simp only [pairAlg, evP, h.neg]; grind
  · simp only [pairAlg, evP, h.zero]; grind
  · intro a hz
    simp only [pairAlg, Bool.and_eq_true] at hz
    simp only [evP, h.isZ _ hz.1, h.isZ _ hz.2]; grind

def caddA (A : Alg R) (b : R) (P Q : R × R × R) : R × R × R :=
  let ad := A.add
  let mu := A.mul
  let su := fun a b => A.add a (A.neg b)
  let th := fun a => A.add a (A.add a a)
  let xx := mu P.1 Q.1
  let yy := mu P.2.1 Q.2.1
  let zz := mu P.2.2 Q.2.2
  let xy := ad (mu P.1 Q.2.1) (mu Q.1 P.2.1)
  let yz := ad (mu P.2.1 Q.2.2) (mu Q.2.1 P.2.2)
  let xz := ad (mu P.1 Q.2.2) (mu Q.1 P.2.2)
  let u := th (su xz (mu b zz))
  let m := su yy u
  let n := ad yy u
  let v := th (su (su (mu b xz) (th zz)) xx)
  let w := su (th xx) (th zz)
  (su (mu xy n) (mu yz v), ad (mu n m) (mu w v), ad (mu yz m) (mu xy w))

def ev3 (ev : R → Fin n) (P : R × R × R) : Tri n := ⟨ev P.1, ev P.2.1, ev P.2.2⟩
theorem caddA_spec {A : Alg R} {ev : R → Fin n} (h : Sem A ev) (b : R) (P Q : R × R × R) : ev3 ev (caddA A b P Q) = cadd (ev b) (ev3 ev P) (ev3 ev Q) := by
  simp only [caddA, ev3, cadd, h.add, h.mul, h.neg, Tri.mk.injEq]
  refine ⟨?_, ?_, ?_⟩ <;> grind
end

/-! ### Three points -/
abbrev P1 := List Int
abbrev P2 := List P1
abbrev P3 := List P2
abbrev P4 := List P3
abbrev Q1 := P4 × P4
abbrev Q2 := Q1 × Q1
abbrev Q3 := Q2 × Q2
-- the lists: x1, x2, x3, b from the outermost
def a4 : Alg P4 := listAlg (listAlg (listAlg (listAlg intAlg)))
def cB : P4 := [[[[0, 1]]]]
def c1 : P4 := [[[[1]]]]
def cX1 : P4 := [[], [[[1]]]]
def cX2 : P4 := [[[], [[1]]]]
def cX3 : P4 := [[[[], [1]]]]
def fX1 : P4 := [[[[0, 1]]], [[[-3]]], [], [[[1]]]]
def fX2 : P4 := [[[[0, 1]], [[-3]], [], [[1]]]]
def fX3 : P4 := [[[[0, 1], [-3], [], [1]]]]
end Go.EC

/- Fermat's little theorem, for numbers. -/
namespace Go.FP

def ch : Nat → Nat → Nat
  | _, 0 => 1
  | 0, _ + 1 => 0
  | n + 1, k + 1 => ch n k + ch n (k + 1)

theorem ch_zero (n : Nat) : ch n 0 = 1 := by cases n <;> rfl
theorem ch_big : ∀ (n k : Nat), n < k → ch n k = 0
  | 0, k + 1, _ => rfl
  | n + 1, k + 1, h => by rw [ch, ch_big n k (by omega), ch_big n (k + 1) (by omega)]
theorem ch_self : ∀ n : Nat, ch n n = 1
  | 0 => rfl
  | n + 1 => by rw [ch, ch_self n, ch_big n (n + 1) (by omega)]
theorem ch_mul : ∀ (n k : Nat), (k + 1) * ch (n + 1) (k + 1) = (n + 1) * ch n k
  | 0, 0 => rfl
  | 0, k + 1 => by simp [ch]
  | n + 1, 0 => by
    have h := ch_mul n 0
    rw [ch_zero] at *
    rw [ch, ch_zero]
    omega
  | n + 1, k + 1 => by
    have h1 := ch_mul n k
    have h2 := ch_mul n (k + 1)
    have h3 : ch (n + 1 + 1) (k + 1 + 1) = ch (n + 1) (k + 1) + ch (n + 1) (k + 1 + 1) := rfl
    have h4 : ch (n + 1) (k + 1) = ch n k + ch n (k + 1) := rfl
    rw [h3]
    generalize ch (n + 1) (k + 1) = c at *
    generalize ch (n + 1) (k + 1 + 1) = d at *
    generalize ch n k = a at *
    generalize ch n (k + 1) = b at *
    grind

def sm (f : Nat → Nat) : Nat → Nat
  | 0 => 0
  | n + 1 => sm f n + f n
theorem sm_congr {f g : Nat → Nat} : ∀ (n : Nat), (∀ i, i < n → f i = g i) → sm f n = sm g n
  | 0, _ => rfl
  | n + 1, h => by rw [sm, sm, sm_congr n fun i hi => h i (by omega), h n (by omega)]
theorem sm_add (f g : Nat → Nat) : ∀ n : Nat, sm (fun i => f i + g i) n = sm f n + sm g n
  | 0 => rfl
  | n + 1 => by rw [sm, sm, sm, sm_add f g n]; omega
theorem sm_mul (f : Nat → Nat) (c : Nat) : ∀ n : Nat, sm (fun i => f i * c) n = sm f n * c
  | 0 => by simp [sm]
  | n + 1 => by rw [sm, sm, sm_mul f c n, Nat.add_mul]
theorem sm_first (f : Nat → Nat) : ∀ n : Nat, sm f (n + 1) = f 0 + sm (fun i => f (i + 1)) n
  | 0 => by simp [sm]
  | n + 1 => by rw [sm, sm_first f n, sm]; omega
theorem sm_dvd {f : Nat → Nat} {d : Nat} : ∀ (n : Nat), (∀ i, i < n → d ∣ f i) → d ∣ sm f n
  | 0, _ => Nat.dvd_zero d
  | n + 1, h => Nat.dvd_add (sm_dvd n fun i hi => h i (by omega)) (h n (by omega))

theorem binom (a : Nat) : ∀ n : Nat, (a + 1) ^ n = sm (fun k => ch n k * a ^ k) (n + 1)
  | 0 => by simp [sm, ch]
  | n + 1 => by
    rw [Nat.pow_succ, binom a n, Nat.mul_add, Nat.mul_one, ← sm_mul]
    rw [sm_first (fun k => ch (n + 1) k * a ^ k) (n + 1)]
    have e : ∀ i, i < n + 1 → ch (n + 1) (i + 1) * a ^ (i + 1) = ch n i * a ^ i * a + ch n (i + 1) * a ^ (i + 1) := fun i _ => by
      rw [ch, Nat.add_mul, Nat.pow_succ, Nat.mul_assoc]
    rw [sm_congr (n + 1) e, sm_add]
    have l : sm (fun k => ch n k * a ^ k) (n + 1) = 1 + sm (fun i => ch n (i + 1) * a ^ (i + 1)) n := by
      rw [sm_first, ch_zero]; simp
    have r : sm (fun i => ch n (i + 1) * a ^ (i + 1)) (n + 1) = sm (fun i => ch n (i + 1) * a ^ (i + 1)) n := by
      rw [sm, ch_big n (n + 1) (by omega)]; simp
    rw [r]
    conv => lhs; rhs; rw [l]
    rw [ch_zero]
    simp
    omega

def Prime (p : Nat) : Prop := 2 ≤ p ∧ ∀ d, d ∣ p → d = 1 ∨ d = p

theorem Prime.coprime {p k : Nat} (hp : Prime p) (h : ¬ p ∣ k) : Nat.Coprime p k := by
  rcases hp.2 (Nat.gcd p k) (Nat.gcd_dvd_left p k) with e | e
  · exact e
  · exact (h (e ▸ Nat.gcd_dvd_right p k)).elim
theorem Prime.dvd_mul {p a b : Nat} (hp : Prime p) (h : p ∣ a * b) : p ∣ a ∨ p ∣ b := by
  by_cases ha : p ∣ a
  · exact .inl ha
  · exact .inr ((hp.coprime ha).dvd_of_dvd_mul_left h)

theorem Prime.dvd_ch {p k : Nat} (hp : Prime p) (h0 : 0 < k) (h1 : k < p) : p ∣ ch p k := by
  obtain ⟨j, rfl⟩ : ∃ j, k = j + 1 := ⟨k - 1, by omega⟩
  obtain ⟨m, rfl⟩ : ∃ m, p = m + 1 := ⟨p - 1, by omega⟩
  have h := ch_mul m j
  have hd : m + 1 ∣ (j + 1) * ch (m + 1) (j + 1) := ⟨_, h⟩
  rcases hp.dvd_mul hd with h | h
  · have := Nat.le_of_dvd (by omega) h; omega
  · exact h

theorem dream {p : Nat} (hp : Prime p) (a : Nat) : (a + 1) ^ p % p = (a ^ p + 1) % p := by
  obtain ⟨m, rfl⟩ : ∃ m, p = m + 1 := ⟨p - 1, by have := hp.1; omega⟩
  rw [binom, sm, sm_first, ch_self, ch_zero]
  have hd : m + 1 ∣ sm (fun i => ch (m + 1) (i + 1) * a ^ (i + 1)) m := sm_dvd m fun i hi => Nat.dvd_trans (hp.dvd_ch (by omega) (by omega)) (Nat.dvd_mul_right _ _)
  obtain ⟨c, hc⟩ := hd
  rw [hc]
  rw [show 1 * a ^ 0 + (m + 1) * c + 1 * a ^ (m + 1) = a ^ (m + 1) + 1 + (m + 1) * c by simp; omega, Nat.add_mul_mod_self_left]

theorem fermat {p : Nat} (hp : Prime p) : ∀ a : Nat, a ^ p % p = a % p
  | 0 => by rw [Nat.zero_pow (by have := hp.1; omega)]
  | a + 1 => by rw [dream hp, Nat.add_mod, fermat hp a, ← Nat.add_mod]

theorem exists_prime : ∀ (n : Nat), 2 ≤ n → ∃ q, Prime q ∧ q ∣ n := by
  intro n
  induction n using Nat.strongRecOn with
  | ind n ih =>
    intro h
    by_cases hp : Prime n
    · exact ⟨n, hp, Nat.dvd_refl n⟩
    · have : ∃ d, d ∣ n ∧ d ≠ 1 ∧ d ≠ n := by
        apply Classical.byContradiction
        intro hc
        exact hp ⟨h, fun d hd => by
          by_cases h1 : d = 1
          · exact .inl h1
          · by_cases h2 : d = n
            · exact .inr h2
            · exact (hc ⟨d, hd, h1, h2⟩).elim⟩
      obtain ⟨d, hd, h1, h2⟩ := this
      have hle := Nat.le_of_dvd (by omega) hd
      have h0 : d ≠ 0 := fun e => by subst e; have := Nat.eq_zero_of_zero_dvd hd; omega
      obtain ⟨q, hq, hqd⟩ := ih d (by omega) (by omega)
      exact ⟨q, hq, Nat.dvd_trans hqd hd⟩
end Go.FP

/- The prime of P-224. -/
namespace Go.FP

@[irreducible] def p : Nat := 26959946667150639794667015087019630673557916260026308143510066298881

def pm (m a : Nat) : List Bool → Nat → Nat
  | [], r => r
  | b :: l, r => pm m a l (if b then r * r % m * a % m else r * r % m)
def nm : List Bool → Nat → Nat
  | [], n => n
  | b :: l, n => nm l (if b then 2 * n + 1 else 2 * n)
theorem pm_spec (m a : Nat) : ∀ (l : List Bool) (r n : Nat), r % m = a ^ n % m → pm m a l r % m = a ^ nm l n % m
  | [], r, n, h => h
  | b :: l, r, n, h => by
    have h2 : r * r % m = a ^ (2 * n) % m := by
      rw [Nat.mul_mod, h, ← Nat.mul_mod, ← Nat.pow_add, Nat.two_mul]
    cases b
    · simp only [pm, nm, Bool.false_eq_true, if_false]
      exact pm_spec m a l _ _ (by rw [Nat.mod_mod, h2])
    · simp only [pm, nm, if_true]
      refine pm_spec m a l _ _ ?_
      rw [Nat.mod_mod, Nat.mul_mod, Nat.mod_mod, h2, ← Nat.mul_mod, Nat.pow_succ]

/-- the bits of a number, the highest first -/
def bitsOf (e : Nat) : Nat → List Bool
  | 0 => []
  | k + 1 => (e / 2 ^ k % 2 == 1) :: bitsOf e k

theorem pow_gcd {q x : Nat} (hq : 1 < q) : ∀ (m n : Nat), x ^ m % q = 1 → x ^ n % q = 1 → x ^ Nat.gcd m n % q = 1 := by
  intro m n
  induction m, n using Nat.gcd.induction with
  | H0 n => intro _ h; simpa using h
  | H1 m n hm ih =>
    intro h1 h2
    rw [Nat.gcd_rec]
    refine ih ?_ h1
    have e : n = m * (n / m) + n % m := (Nat.div_add_mod n m).symm
    have h3 : x ^ (m * (n / m)) % q = 1 := by
      rw [Nat.pow_mul, Nat.pow_mod, h1, Nat.one_pow, Nat.mod_eq_of_lt hq]
    rw [e, Nat.pow_add, Nat.mul_mod, h3, Nat.one_mul, Nat.mod_mod] at h2
    exact h2

theorem gcd_two_pow : ∀ (k n : Nat), ¬ 2 ^ (k + 1) ∣ n → Nat.gcd (2 ^ (k + 1)) n ∣ 2 ^ k
  | 0, n, h => by
    have h1 : Nat.gcd 2 n ∣ 2 := Nat.gcd_dvd_left 2 n
    have h2 := Nat.le_of_dvd (by decide) h1
    have h3 : Nat.gcd 2 n ≠ 2 := fun e => h (by have := Nat.gcd_dvd_right 2 n; rw [e] at this; exact this)
    have h4 : Nat.gcd 2 n ≠ 0 := fun e => by rw [e] at h1; have := Nat.eq_zero_of_zero_dvd h1; omega
    have : Nat.gcd 2 n = 1 := by omega
    show Nat.gcd 2 n ∣ 1
    rw [this]
    exact Nat.dvd_refl 1
  | k + 1, n, h => by
    by_cases he : n % 2 = 0
    · obtain ⟨m, rfl⟩ : ∃ m, n = 2 * m := ⟨n / 2, by omega⟩
      rw [show 2 ^ (k + 1 + 1) = 2 * 2 ^ (k + 1) by rw [Nat.pow_succ, Nat.mul_comm], Nat.gcd_mul_left, show 2 ^ (k + 1) = 2 * 2 ^ k by rw [Nat.pow_succ, Nat.mul_comm]]
      refine Nat.mul_dvd_mul_left 2 ?_
      rw [show 2 * 2 ^ k = 2 ^ (k + 1) by rw [Nat.pow_succ, Nat.mul_comm]]
      refine gcd_two_pow k m fun hd => h ?_
      rw [show 2 ^ (k + 1 + 1) = 2 * 2 ^ (k + 1) by rw [Nat.pow_succ, Nat.mul_comm]]
      exact Nat.mul_dvd_mul_left 2 hd
    · have hc : Nat.Coprime 2 n := by
        have h1 : Nat.gcd 2 n ∣ 2 := Nat.gcd_dvd_left 2 n
        have h2 := Nat.le_of_dvd (by decide) h1
        have h3 : Nat.gcd 2 n ≠ 2 := fun e => he (by have := Nat.gcd_dvd_right 2 n; rw [e] at this; omega)
        have h4 : Nat.gcd 2 n ≠ 0 := fun e => by rw [e] at h1; have := Nat.eq_zero_of_zero_dvd h1; omega
        show Nat.gcd 2 n = 1
        omega
      have : Nat.gcd (2 ^ (k + 1 + 1)) n = 1 := Nat.Coprime.pow_left _ hc
      rw [this]
      exact Nat.one_dvd _

/-- 11 to the power of (p - 1) / 2 is -1. -/
theorem eleven (n : Nat) (h1 : nm (bitsOf (2 ^ 95 * (2 ^ 128 - 1)) 224) 0 = n) : 11 ^ n % p = p - 1 := by
  have h := pm_spec p 11 (bitsOf (2 ^ 95 * (2 ^ 128 - 1)) 224) 1 0 (by decide +kernel)
  have h2 : pm p 11 (bitsOf (2 ^ 95 * (2 ^ 128 - 1)) 224) 1 % p = p - 1 := by decide +kernel
  rw [h1] at h
  rw [← h, h2]

theorem sq_neg {q : Nat} (hq : 2 ≤ q) : (q - 1) * (q - 1) % q = 1 := by
  obtain ⟨d, rfl⟩ : ∃ d, q = d + 2 := ⟨q - 2, by omega⟩
  have : (d + 2 - 1) * (d + 2 - 1) = 1 + (d + 2) * d := by
    show (d + 1) * (d + 1) = _
    grind
  rw [this, Nat.add_mul_mod_self_left, Nat.mod_eq_of_lt (by omega)]

theorem fermat_one {q x : Nat} (hq : Prime q) (hx : x % q ≠ 0) : x ^ (q - 1) % q = 1 := by
  have hq2 := hq.1
  have h := fermat hq x
  obtain ⟨n, hn⟩ : ∃ n, q = n + 1 := ⟨q - 1, by omega⟩
  have h1 : x ^ q = x * x ^ (q - 1) := by
    rw [hn, Nat.pow_succ, Nat.mul_comm]; rfl
  rw [h1] at h
  have hpos : 1 ≤ x ^ (q - 1) := by
    rcases Nat.eq_zero_or_pos x with e | e
    · subst e; simp at hx
    · exact Nat.pow_pos e
  have hd : q ∣ x * (x ^ (q - 1) - 1) := by
    rw [Nat.mul_sub, Nat.mul_one]
    exact Nat.dvd_of_mod_eq_zero (Nat.sub_mod_eq_zero_of_mod_eq h)
  rcases hq.dvd_mul hd with h2 | h2
  · exact (hx (Nat.mod_eq_zero_of_dvd h2)).elim
  · obtain ⟨k, hk⟩ := h2
    rw [show x ^ (q - 1) = 1 + q * k by omega, Nat.add_mul_mod_self_left, Nat.mod_eq_of_lt (by omega)]

theorem div_one {q x k : Nat} (hq : Prime q) (h2 : q ≠ 2) (h : x ^ (2 ^ k) % q = q - 1) : 2 ^ (k + 1) ∣ q - 1 := by
  have hq2 := hq.1
  apply Classical.byContradiction
  intro hn
  have hx : x % q ≠ 0 := fun e => by
    rw [Nat.pow_mod, e, Nat.zero_pow (Nat.pow_pos (by decide))] at h
    simp at h
    omega
  have h1 : x ^ (2 ^ (k + 1)) % q = 1 := by
    rw [Nat.pow_succ, Nat.pow_mul, Nat.pow_mod, h, Nat.pow_two]
    exact sq_neg hq2
  have h3 := pow_gcd (by omega) _ _ h1 (fermat_one hq hx)
  obtain ⟨c, hc⟩ := gcd_two_pow k (q - 1) hn
  rw [hc, Nat.pow_mul, Nat.pow_mod, h3, Nat.one_pow, Nat.mod_eq_of_lt (by omega)] at h
  omega

theorem prime_p : Prime p := by
  have hp2 : 2 ≤ p := by decide +kernel
  obtain ⟨q, hq, c, hc⟩ := exists_prime p hp2
  have hq2 := hq.1
  have hodd : q ≠ 2 := fun e => by
    have : p % 2 = 1 := by decide +kernel
    rw [hc, e] at this
    omega
  obtain ⟨M, hM⟩ : ∃ M, nm (bitsOf (2 ^ 95 * (2 ^ 128 - 1)) 224) 0 = M * 2 ^ 95 := ⟨2 ^ 128 - 1, by decide +kernel⟩
  have h11 := eleven _ hM
  have hm : 11 ^ (M * 2 ^ 95) % q = q - 1 := by
    have h1 : 11 ^ (M * 2 ^ 95) % p % q = 11 ^ (M * 2 ^ 95) % q := Nat.mod_mod_of_dvd _ ⟨c, hc⟩
    rw [← h1, h11]
    have hc0 : c ≠ 0 := fun e => by
      rw [e] at hc
      have : p ≠ 0 := by decide +kernel
      exact this hc
    obtain ⟨d, rfl⟩ : ∃ d, c = d + 1 := ⟨c - 1, by omega⟩
    rw [hc, Nat.mul_add, Nat.mul_one, show q * d + q - 1 = (q - 1) + q * d by omega, Nat.add_mul_mod_self_left, Nat.mod_eq_of_lt (by omega)]
  rw [Nat.pow_mul] at hm
  obtain ⟨s, hs⟩ := div_one hq hodd hm
  clear hm h11 hM
  by_cases h1 : c = 1
  · rw [hc, h1, Nat.mul_one]; exact hq
  · exfalso
    have hpv : p = 26959946667150639794667015087019630673557916260026308143510066298881 := by decide +kernel
    have hqs : q = 1 + 79228162514264337593543950336 * s := by
      have : (2 : Nat) ^ (95 + 1) = 79228162514264337593543950336 := by decide
      rw [this] at hs
      omega
    subst hqs
    have hs1 : 1 ≤ s := by omega
    rw [Nat.add_mul, Nat.one_mul] at hc
    have hc1 : c % 79228162514264337593543950336 = 1 := by
      have : p % 79228162514264337593543950336 = 1 := by decide +kernel
      rw [hc, Nat.mul_assoc, Nat.add_mul_mod_self_left] at this
      exact this
    obtain ⟨t, ht⟩ : ∃ t, c = 1 + 79228162514264337593543950336 * t := ⟨c / 79228162514264337593543950336, by omega⟩
    subst ht
    have ht1 : 1 ≤ t := by omega
    have e0 : ∀ N : Nat, N * s * (1 + N * t) = N * s + N * N * (s * t) := by intro N; grind
    have e := e0 79228162514264337593543950336
    rw [e] at hc
    have u1 : s ≤ s * t := Nat.le_mul_of_pos_right s ht1
    have u2 : t ≤ s * t := Nat.le_mul_of_pos_left t hs1
    have u3 : s + t ≤ s * t + 1 := by
      obtain ⟨s', rfl⟩ : ∃ s', s = s' + 1 := ⟨s - 1, by omega⟩
      obtain ⟨t', rfl⟩ : ∃ t', t = t' + 1 := ⟨t - 1, by omega⟩
      have : (s' + 1) * (t' + 1) = s' * t' + s' + t' + 1 := by grind
      omega
    generalize s * t = u at *
    clear e e0
    rw [hpv] at hc
    omega
end Go.FP

/- The field of P-224. -/
namespace Go.FP
open Go.EC

instance : NeZero p := ⟨by decide +kernel⟩
abbrev F := Fin p

def fpow (a : F) : Nat → F
  | 0 => 1
  | k + 1 => fpow a k * a
theorem one_val : (1 : F).val = 1 := by decide +kernel
theorem fpow_val (a : F) : ∀ k : Nat, (fpow a k).val = a.val ^ k % p
  | 0 => by rw [fpow, one_val, Nat.pow_zero, Nat.mod_eq_of_lt (by decide +kernel)]
  | k + 1 => by rw [fpow, Fin.val_mul, fpow_val a k, Nat.pow_succ, Nat.mod_mul_mod]
theorem fpow_add (a : F) (k : Nat) : ∀ l : Nat, fpow a (k + l) = fpow a k * fpow a l
  | 0 => by rw [Nat.add_zero, fpow]; grind
  | l + 1 => by rw [← Nat.add_assoc, fpow, fpow_add a k l, fpow]; grind
theorem fpow_one (a : F) : fpow a 1 = a := by rw [fpow, fpow]; grind
theorem fpow_mul (a : F) (k : Nat) : ∀ l : Nat, fpow a (k * l) = fpow (fpow a k) l
  | 0 => by rw [Nat.mul_zero, fpow, fpow]
  | l + 1 => by rw [Nat.mul_succ, fpow_add, fpow_mul a k l, fpow]
theorem fpow_base (a c : F) : ∀ k : Nat, fpow (a * c) k = fpow a k * fpow c k
  | 0 => by rw [fpow, fpow, fpow]; grind
  | k + 1 => by rw [fpow, fpow_base a c k, fpow, fpow]; grind
theorem fpow_of_one : ∀ k : Nat, fpow 1 k = 1
  | 0 => rfl
  | k + 1 => by rw [fpow, fpow_of_one k]; grind

theorem val_ne {a : F} (h : a ≠ 0) : a.val ≠ 0 := fun e => h (Fin.ext e)
theorem fermat_F {a : F} (h : a ≠ 0) : fpow a (p - 1) = 1 := by
  apply Fin.ext
  rw [fpow_val, one_val]
  refine fermat_one prime_p ?_
  rw [Nat.mod_eq_of_lt a.isLt]
  exact val_ne h
theorem fermat_F' (a : F) : fpow a p = a := by
  apply Fin.ext
  rw [fpow_val, fermat prime_p, Nat.mod_eq_of_lt a.isLt]

/-- 1 / a; of 0 it is 0. -/
def iv (a : F) : F := fpow a (p - 2)
theorem iv_mul {a : F} (h : a ≠ 0) : a * iv a = 1 := by
  have e : p - 1 = p - 2 + 1 := by decide +kernel
  have h1 := fermat_F h
  rw [e, fpow] at h1
  rw [iv, ← h1]
  grind
theorem iv_zero : iv 0 = 0 := by
  have : p - 2 = (p - 3) + 1 := by decide +kernel
  rw [iv, this, fpow]
  grind
theorem one_ne : (0 : F) ≠ 1 := by decide +kernel
theorem two_ne : (2 : F) ≠ 0 := by decide +kernel
theorem F_mul_ne {a c : F} (ha : a ≠ 0) (hb : c ≠ 0) : a * c ≠ 0 := by
  intro h
  have h1 := iv_mul ha
  exact hb (by grind)

/-! ### The polynomial has no root -/
def bN : Nat := 18958286285566608000408668544493926415504680968679321075787234672564
def bF : F := ⟨bN, by decide +kernel⟩

/-- Remainders modulo x^3 - 3 x + b. -/
def mm (a c : Nat × Nat × Nat) : Nat × Nat × Nat :=
  let (a0, a1, a2) := a
  let (c0, c1, c2) := c
  let e0 := a0 * c0
  let e1 := a0 * c1 + a1 * c0
  let e2 := a0 * c2 + a1 * c1 + a2 * c0
  let e3 := (a1 * c2 + a2 * c1) % p
  let e4 := a2 * c2 % p
  -- x^3 = 3 x - b, x^4 = 3 x^2 - b x
  ((e0 + e3 * (p - bN)) % p, (e1 + 3 * e3 + e4 * (p - bN)) % p, (e2 + 3 * e4) % p)
def frc {α : Type} (n : Nat) (k : Nat → α) : α :=
  match n with
  | 0 => k 0
  | m + 1 => k (m + 1)
theorem frc_spec {α : Type} (n : Nat) (k : Nat → α) : frc n k = k n := by cases n <;> rfl
def pmm (a : Nat × Nat × Nat) : List Bool → Nat × Nat × Nat → Nat × Nat × Nat
  | [], r => r
  | b :: l, r =>
    let s := if b then mm (mm r r) a else mm r r
    frc s.1 fun x => frc s.2.1 fun y => frc s.2.2 fun z => pmm a l (x, y, z)
def nF (k : Nat) : F := Fin.ofNat p k
theorem nF_add (a c : Nat) : nF (a + c) = nF a + nF c := by
  apply Fin.ext
  simp [nF, Fin.val_add]
theorem nF_mul (a c : Nat) : nF (a * c) = nF a * nF c := by
  apply Fin.ext
  simp [nF, Fin.val_mul, Nat.mul_mod]
theorem nF_mod (a : Nat) : nF (a % p) = nF a := by
  apply Fin.ext
  simp [nF]
theorem nF_three : nF 3 = 3 := by decide +kernel
theorem nF_b : nF (p - bN) = - bF := by decide +kernel
def evm (r : F) (a : Nat × Nat × Nat) : F := nF a.1 + nF a.2.1 * r + nF a.2.2 * (r * r)
theorem mm_spec {r : F} (hr : rhs bF r = 0) (a c : Nat × Nat × Nat) : evm r (mm a c) = evm r a * evm r c := by
  obtain ⟨a0, a1, a2⟩ := a
  obtain ⟨c0, c1, c2⟩ := c
  simp only [mm, evm, nF_add, nF_mul, nF_mod, nF_three, nF_b]
  unfold rhs at hr
  generalize bF = bb at *
  grind
theorem pmm_spec {r : F} (hr : rhs bF r = 0) (a : Nat × Nat × Nat) : ∀ (l : List Bool) (s : Nat × Nat × Nat) (k : Nat), evm r s = fpow (evm r a) k → evm r (pmm a l s) = fpow (evm r a) (nm l k)
  | [], s, k, h => h
  | b :: l, s, k, h => by
    have h2 : evm r (mm s s) = fpow (evm r a) (2 * k) := by rw [mm_spec hr, h, ← fpow_add, Nat.two_mul]
    cases b
    · simp only [pmm, nm, frc_spec, Bool.false_eq_true, if_false]
      exact pmm_spec hr a l _ _ h2
    · simp only [pmm, nm, frc_spec, if_true]
      exact pmm_spec hr a l _ _ (by rw [mm_spec hr, h2, fpow])
/-- x to the power of p, less x. -/
def xp : Nat × Nat × Nat := pmm (0, 1, 0) (bitsOf p 224) (1, 0, 0)
def xw : Nat × Nat × Nat := (xp.1, xp.2.1 + (p - 1), xp.2.2)
/-- its inverse: the power of p^3 - 2 would be one; here by hand -/
def xu : Nat × Nat × Nat := (1261710631285627074303005901530361786216288604486499842249704943048, 4447412785031720342771701563499662000791675740805516550464163634437, 9439789507511725786058244597052783711805086828869674293526675889612)
theorem xu_ok : mm xu xw = (1, 0, 0) := by decide +kernel

theorem e_one {n : Nat} [NeZero n] (r : Fin n) : 1 + 0 * r + 0 * (r * r) = 1 := by grind
theorem e_var {n : Nat} [NeZero n] (r : Fin n) : 0 + 1 * r + 0 * (r * r) = r := by grind
theorem no_root (r : F) : rhs bF r ≠ 0 := by
  intro hr
  have h0 : nF 0 = 0 := by decide +kernel
  have h1 : nF 1 = 1 := by decide +kernel
  have e1 : evm r (0, 1, 0) = r := by
    simp only [evm]
    rw [h0, h1]
    exact e_var r
  have e2 : evm r (1, 0, 0) = 1 := by
    simp only [evm]
    rw [h0, h1]
    exact e_one r
  have h := pmm_spec hr (0, 1, 0) (bitsOf p 224) (1, 0, 0) 0 (by rw [e2, fpow])
  have hn : nm (bitsOf p 224) 0 = p := by decide +kernel
  rw [hn, e1, fermat_F'] at h
  have hw : evm r xw = 0 := by
    have h2 : evm r xw = evm r xp - r := by
      simp only [xw, evm, nF_add]
      have : nF (p - 1) = -1 := by decide +kernel
      rw [this]
      grind
    rw [h2]
    show evm r (pmm (0, 1, 0) (bitsOf p 224) (1, 0, 0)) - r = 0
    rw [h]
    grind
  have h3 := mm_spec hr xu xw
  rw [xu_ok, e2, hw] at h3
  exact one_ne (by rw [h3]; grind)

theorem good : Good bF iv := ⟨one_ne, fun _ h => iv_mul h, two_ne, no_root⟩
end Go.FP

/- Three coordinates stand for the sum. -/
namespace Go.EC
variable {n : Nat} [NeZero n] {b : Fin n} {iv : Fin n → Fin n}

theorem cadd_comm (b : Fin n) (P Q : Tri n) : cadd b P Q = cadd b Q P := by
  simp only [cadd, Tri.mk.injEq]
  refine ⟨?_, ?_, ?_⟩ <;> grind

theorem same_Z {x y : Fin n} (h : y * y = rhs b x) : (cadd b ⟨x, y, 1⟩ ⟨x, y, 1⟩).z = 2 * 2 * 2 * (y * y * y) := by
  simp only [cadd]
  unfold rhs at h
  grind
theorem same_X {x y : Fin n} (h : y * y = rhs b x) : (cadd b ⟨x, y, 1⟩ ⟨x, y, 1⟩).x * ((y + y) * (y + y)) = ((3 * (x * x) - 3) * (3 * (x * x) - 3) - (x + x) * ((y + y) * (y + y))) * (cadd b ⟨x, y, 1⟩ ⟨x, y, 1⟩).z := by
  rw [same_Z h]
  simp only [cadd]
  unfold rhs at h
  grind
theorem same_Y {x y : Fin n} (h : y * y = rhs b x) : (cadd b ⟨x, y, 1⟩ ⟨x, y, 1⟩).y * ((y + y) * (y + y) * (y + y)) =
    ((3 * (x * x) - 3) * (x * ((y + y) * (y + y)) - ((3 * (x * x) - 3) * (3 * (x * x) - 3) - (x + x) * ((y + y) * (y + y)))) - y * ((y + y) * (y + y) * (y + y))) * (cadd b ⟨x, y, 1⟩ ⟨x, y, 1⟩).z := by
  rw [same_Z h]
  simp only [cadd]
  unfold rhs at h
  grind
theorem opp_XZ {x y : Fin n} : (cadd b ⟨x, y, 1⟩ ⟨x, -y, 1⟩).x = 0 ∧ (cadd b ⟨x, y, 1⟩ ⟨x, -y, 1⟩).z = 0 := by
  simp only [cadd]
  constructor <;> grind
theorem opp_Y {x y : Fin n} (h : y * y = rhs b x) : (cadd b ⟨x, y, 1⟩ ⟨x, -y, 1⟩).y =
    (3 * (x * x) - 3) * (x * ((y + y) * (y + y)) - ((3 * (x * x) - 3) * (3 * (x * x) - 3) - (x + x) * ((y + y) * (y + y)))) - y * ((y + y) * (y + y) * (y + y)) := by
  simp only [cadd]
  unfold rhs at h
  grind

theorem rep_chord {x1 y1 x2 y2 d e : Fin n} (g : Good b iv) (T : Tri n) (hd : d ≠ 0) (hz : T.z ≠ 0)
    (hX : T.x * (d * d) = (e * e - (x1 + x2) * (d * d)) * T.z)
    (hY : T.y * (d * d * d) = (e * (x1 * (d * d) - (e * e - (x1 + x2) * (d * d))) - y1 * (d * d * d)) * T.z)
    (hon : On b (chord x1 y1 x2 y2 (e * iv d))) : Rep b T (chord x1 y1 x2 y2 (e * iv d)) := by
  have hs := inv_mul_eq g (a := e) hd
  generalize e * iv d = s at *
  refine ⟨hz, ?_, ?_, hon⟩
  · refine eq_of_mul g (mul_ne g hd hd) ?_
    rw [hX]
    grind
  · refine eq_of_mul g (mul_ne g (mul_ne g hd hd) hd) ?_
    rw [hY]
    grind

theorem rep_affine {x1 y1 x2 y2 : Fin n} (g : Good b iv) (h1 : y1 * y1 = rhs b x1) (h2 : y2 * y2 = rhs b x2) :
    Rep b (cadd b ⟨x1, y1, 1⟩ ⟨x2, y2, 1⟩) (asum iv (some (x1, y1)) (some (x2, y2))) := by
  have hon := asum_on (P := some (x1, y1)) (Q := some (x2, y2)) g h1 h2
  simp only [asum] at *
  split
  · rename_i hx
    rw [if_pos hx] at hon
    have hd : x2 - x1 ≠ 0 := fun h => hx (by grind)
    refine rep_chord g _ hd ?_ (gen_X h1 h2) (gen_Y h1 h2) hon
    rw [gen_Z h1 h2]
    -- the difference
    have h3 : -y2 * -y2 = rhs b x2 := by rw [← h2]; grind
    have hs := inv_mul_eq g (a := -y2 - y1) hd
    have hc := chord_on g h1 h3 hx hs
    generalize (-y2 - y1) * iv (x2 - x1) = s at *
    have hy := on_ne g hc
    intro hz
    refine mul_ne g (mul_ne g (mul_ne g hd hd) hd) hy ?_
    rw [← hz, ← hs]
    grind
  · rename_i hx
    rw [if_neg hx] at hon
    have e1 : x1 = x2 := Classical.not_not.1 hx
    subst e1
    split
    · rename_i hy
      have hy0 := on_ne g h1
      have hne : y1 ≠ y2 := by
        rcases hy with h | h
        · exact h
        · exact (hy0 h).elim
      have h5 : (y1 - y2) * (y1 + y2) = 0 := by
        have : y1 * y1 = y2 * y2 := h1.trans h2.symm
        grind
      have h6 : y1 + y2 = 0 := by
        apply Classical.byContradiction
        intro hc
        exact mul_ne g (fun h => hne (by grind)) hc h5
      have h7 : y2 = -y1 := by grind
      subst h7
      refine ⟨opp_XZ.1, opp_XZ.2, ?_⟩
      rw [opp_Y h1]
      have hyy : y1 + y1 ≠ 0 := fun h => mul_ne g g.two hy0 (by grind)
      have hs := inv_mul_eq g (a := 3 * (x1 * x1) - 3) hyy
      have hc := tangent_on h1 hs
      generalize (3 * (x1 * x1) - 3) * iv (y1 + y1) = s at *
      have hy := on_ne g hc
      intro hz
      refine mul_ne g (mul_ne g (mul_ne g hyy hyy) hyy) hy ?_
      rw [← hz, ← hs]
      grind
    · rename_i hy
      rw [if_neg hy] at hon
      have e2 : y1 = y2 := Classical.not_not.1 fun h => hy (.inl h)
      subst e2
      have hy0 := on_ne g h1
      have hyy : y1 + y1 ≠ 0 := fun h => mul_ne g g.two hy0 (by grind)
      refine rep_chord g _ hyy ?_ (same_X h1) (same_Y h1) hon
      rw [same_Z h1]
      exact mul_ne g (mul_ne g (mul_ne g g.two g.two) g.two) (mul_ne g (mul_ne g hy0 hy0) hy0)

theorem rep_none_left (g : Good b iv) : ∀ {Q : Pt n}, On b Q → Rep b (cadd b (norm none) (norm Q)) Q
  | none, _ => by
    simp only [norm, cadd]
    refine ⟨?_, ?_, ?_⟩
    · grind
    · grind
    · intro h
      exact g.one (by rw [← h]; grind)
  | some (x, y), h => by
    have hy := on_ne g h
    simp only [norm, cadd]
    refine ⟨?_, ?_, ?_, h⟩
    · intro hz
      exact hy (by rw [← hz]; grind)
    · grind
    · grind

theorem rep_norm_add (g : Good b iv) : ∀ {P Q : Pt n}, On b P → On b Q → Rep b (cadd b (norm P) (norm Q)) (asum iv P Q)
  | none, Q, _, h2 => by
    have : asum iv (none : Pt n) Q = Q := by cases Q <;> rfl
    rw [this]
    exact rep_none_left g h2
  | some P, none, h1, _ => by
    rw [cadd_comm]
    exact rep_none_left g h1
  | some (x1, y1), some (x2, y2), h1, h2 => rep_affine g h1 h2

theorem sq_ne (g : Good b iv) {k : Fin n} (h : k ≠ 0) : k * k ≠ 0 := mul_ne g h h

/-- The complete formulas give the sum. -/
theorem rep_add (g : Good b iv) {S T : Tri n} {P Q : Pt n} (h1 : Rep b S P) (h2 : Rep b T Q) : Rep b (cadd b S T) (asum iv P Q) := by
  obtain ⟨k, hk, e1⟩ := h1.norm_eq
  obtain ⟨l, hl, e2⟩ := h2.norm_eq
  rw [e1, e2, cadd_smul]
  exact (rep_norm_add g h1.on h2.on).smul g (mul_ne g (sq_ne g hk) (sq_ne g hl))

/-- Two points for which proportional coordinates stand are one. -/
theorem rep_eq (g : Good b iv) {S T : Tri n} (hxz : S.x * T.z = T.x * S.z) (hyz : S.y * T.z = T.y * S.z) : ∀ {P Q : Pt n}, Rep b S P → Rep b T Q → P = Q
  | none, none, _, _ => rfl
  | none, some (x, y), ⟨h1, h2, h3⟩, ⟨k1, k2, k3, k4⟩ => by
    exfalso
    rw [h2] at hyz
    exact mul_ne g h3 k1 (by rw [hyz]; grind)
  | some (x, y), none, ⟨k1, k2, k3, k4⟩, ⟨h1, h2, h3⟩ => by
    exfalso
    rw [h2] at hyz
    exact mul_ne g h3 k1 (by rw [← hyz]; grind)
  | some (x, y), some (x', y'), ⟨h1, h2, h3, h4⟩, ⟨k1, k2, k3, k4⟩ => by
    have e1 : x = x' := by
      refine eq_of_mul g (mul_ne g h1 k1) ?_
      have : S.x * T.z = T.x * S.z := hxz
      rw [h2, k2] at this
      grind
    have e2 : y = y' := by
      refine eq_of_mul g (mul_ne g h1 k1) ?_
      have : S.y * T.z = T.y * S.z := hyz
      rw [h3, k3] at this
      grind
    rw [e1, e2]
end Go.EC

/- The law of three points comes down to one calculation with whole numbers: each variable stands for a number so great that nothing runs together. -/
namespace Go.EC

/-- Two calculations side by side. -/
structure Lg {R S : Type} (A : Alg R) (B : Alg S) (r : R → S → Prop) : Prop where
  add : ∀ {a s b t}, r a s → r b t → r (A.add a b) (B.add s t)
  mul : ∀ {a s b t}, r a s → r b t → r (A.mul a b) (B.mul s t)
  neg : ∀ {a s}, r a s → r (A.neg a) (B.neg s)

section
variable {R S : Type} {A : Alg R} {B : Alg S} {r : R → S → Prop}
def r2 (r : R → S → Prop) (a : R × R) (s : S × S) : Prop := r a.1 s.1 ∧ r a.2 s.2
theorem Lg.pair (h : Lg A B r) {f : R} {g : S} (hf : r f g) : Lg (pairAlg A f) (pairAlg B g) (r2 r) :=
  ⟨fun h1 h2 => ⟨h.add h1.1 h2.1, h.add h1.2 h2.2⟩, fun h1 h2 => ⟨h.add (h.mul h1.1 h2.1) (h.mul hf (h.mul h1.2 h2.2)), h.add (h.mul h1.1 h2.2) (h.mul h1.2 h2.1)⟩, fun h1 => ⟨h.neg h1.1, h.neg h1.2⟩⟩
def r3 (r : R → S → Prop) (P : R × R × R) (Q : S × S × S) : Prop := r P.1 Q.1 ∧ r P.2.1 Q.2.1 ∧ r P.2.2 Q.2.2
theorem Lg.cadd (h : Lg A B r) {b : R} {c : S} (hb : r b c) {P Q : R × R × R} {P' Q' : S × S × S} (hP : r3 r P P') (hQ : r3 r Q Q') : r3 r (caddA A b P Q) (caddA B c P' Q') := by
  have su : ∀ {a s b t}, r a s → r b t → r (A.add a (A.neg b)) (B.add s (B.neg t)) := fun h1 h2 => h.add h1 (h.neg h2)
  have th : ∀ {a s}, r a s → r (A.add a (A.add a a)) (B.add s (B.add s s)) := fun h1 => h.add h1 (h.add h1 h1)
  have xx := h.mul hP.1 hQ.1
  have yy := h.mul hP.2.1 hQ.2.1
  have zz := h.mul hP.2.2 hQ.2.2
  have xy := h.add (h.mul hP.1 hQ.2.1) (h.mul hQ.1 hP.2.1)
  have yz := h.add (h.mul hP.2.1 hQ.2.2) (h.mul hQ.2.1 hP.2.2)
  have xz := h.add (h.mul hP.1 hQ.2.2) (h.mul hQ.1 hP.2.2)
  have u := th (su xz (h.mul hb zz))
  have m := su yy u
  have n := h.add yy u
  have v := th (su (su (h.mul hb xz) (th zz)) xx)
  have w := su (th xx) (th zz)
  exact ⟨su (h.mul xy n) (h.mul yz v), h.add (h.mul n m) (h.mul w v), h.add (h.mul yz m) (h.mul xy w)⟩
end

/-! ### The calculation, in any algebra -/
section
variable {S : Type}
abbrev Oct (S : Type) := ((S × S) × (S × S)) × ((S × S) × (S × S))
def upO (o a : S) : Oct S := (((a, o), (o, o)), ((o, o), (o, o)))
def octAlg (A : Alg S) (o f1 f2 f3 : S) : Alg (Oct S) := pairAlg (pairAlg (pairAlg A f1) (f2, o)) ((f3, o), (o, o))
/-- What the calculation starts from. -/
structure Ini (S : Type) where
  o : S
  i : S
  b : S
  x1 : S
  x2 : S
  x3 : S
  f1 : S
  f2 : S
  f3 : S
def Ini.alg (A : Alg S) (c : Ini S) : Alg (Oct S) := octAlg A c.o c.f1 c.f2 c.f3
def Ini.P (c : Ini S) : Oct S × Oct S × Oct S := (upO c.o c.x1, (((c.o, c.i), (c.o, c.o)), ((c.o, c.o), (c.o, c.o))), upO c.o c.i)
def Ini.Q (c : Ini S) : Oct S × Oct S × Oct S := (upO c.o c.x2, (((c.o, c.o), (c.i, c.o)), ((c.o, c.o), (c.o, c.o))), upO c.o c.i)
def Ini.R (c : Ini S) : Oct S × Oct S × Oct S := (upO c.o c.x3, (((c.o, c.o), (c.o, c.o)), ((c.i, c.o), (c.o, c.o))), upO c.o c.i)
def crossV {T : Type} (A : Alg T) (a b c d : T) : T := A.add (A.mul a b) (A.neg (A.mul c d))
def Ini.L (A : Alg S) (c : Ini S) : Oct S × Oct S × Oct S := caddA (c.alg A) (upO c.o c.b) (caddA (c.alg A) (upO c.o c.b) c.P c.Q) c.R
def Ini.M (A : Alg S) (c : Ini S) : Oct S × Oct S × Oct S := caddA (c.alg A) (upO c.o c.b) c.P (caddA (c.alg A) (upO c.o c.b) c.Q c.R)
def Ini.C1 (A : Alg S) (c : Ini S) : Oct S := crossV (c.alg A) (c.L A).1 (c.M A).2.2 (c.M A).1 (c.L A).2.2
def Ini.C2 (A : Alg S) (c : Ini S) : Oct S := crossV (c.alg A) (c.L A).2.1 (c.M A).2.2 (c.M A).2.1 (c.L A).2.2

structure Ini.Rl {R : Type} (r : R → S → Prop) (c : Ini R) (d : Ini S) : Prop where
  o : r c.o d.o
  i : r c.i d.i
  b : r c.b d.b
  x1 : r c.x1 d.x1
  x2 : r c.x2 d.x2
  x3 : r c.x3 d.x3
  f1 : r c.f1 d.f1
  f2 : r c.f2 d.f2
  f3 : r c.f3 d.f3
theorem Ini.sides {R : Type} {A : Alg R} {B : Alg S} {r : R → S → Prop} (h : Lg A B r) {c : Ini R} {d : Ini S} (k : Ini.Rl r c d) : r2 (r2 (r2 r)) (c.C1 A) (d.C1 B) ∧ r2 (r2 (r2 r)) (c.C2 A) (d.C2 B) := by
  have o := k.o
  have H : Lg (c.alg A) (d.alg B) (r2 (r2 (r2 r))) := Lg.pair (Lg.pair (Lg.pair h k.f1) ⟨k.f2, o⟩) ⟨⟨k.f3, o⟩, ⟨o, o⟩⟩
  have up : ∀ {a s}, r a s → r2 (r2 (r2 r)) (upO c.o a) (upO d.o s) := fun ha => ⟨⟨⟨ha, o⟩, ⟨o, o⟩⟩, ⟨⟨o, o⟩, ⟨o, o⟩⟩⟩
  have hP : r3 (r2 (r2 (r2 r))) c.P d.P := ⟨up k.x1, ⟨⟨⟨o, k.i⟩, ⟨o, o⟩⟩, ⟨⟨o, o⟩, ⟨o, o⟩⟩⟩, up k.i⟩
  have hQ : r3 (r2 (r2 (r2 r))) c.Q d.Q := ⟨up k.x2, ⟨⟨⟨o, o⟩, ⟨k.i, o⟩⟩, ⟨⟨o, o⟩, ⟨o, o⟩⟩⟩, up k.i⟩
  have hR : r3 (r2 (r2 (r2 r))) c.R d.R := ⟨up k.x3, ⟨⟨⟨o, o⟩, ⟨o, o⟩⟩, ⟨⟨k.i, o⟩, ⟨o, o⟩⟩⟩, up k.i⟩
  have hL : r3 (r2 (r2 (r2 r))) (c.L A) (d.L B) := H.cadd (up k.b) (H.cadd (up k.b) hP hQ) hR
  have hM : r3 (r2 (r2 (r2 r))) (c.M A) (d.M B) := H.cadd (up k.b) hP (H.cadd (up k.b) hQ hR)
  exact ⟨H.add (H.mul hL.1 hM.2.2) (H.neg (H.mul hM.1 hL.2.2)), H.add (H.mul hL.2.1 hM.2.2) (H.neg (H.mul hM.2.1 hL.2.2))⟩

/-! ### The same, each number forced -/
abbrev Fo (S : Type) := S → (S → Bool) → Bool
def fo2 (fo : Fo S) : Fo (S × S) := fun a k => fo a.1 fun x => fo a.2 fun y => k (x, y)
def Law (fo : Fo S) : Prop := ∀ a k, fo a k = k a
theorem law2 {fo : Fo S} (h : Law fo) : Law (fo2 fo) := fun a k => by simp only [fo2, h a.1, h a.2]
def caddK {T : Type} (fo : Fo T) (A : Alg T) (b : T) (P Q : T × T × T) (k : T × T × T → Bool) : Bool :=
  let ad := A.add
  let mu := A.mul
  let su := fun a b => A.add a (A.neg b)
  let th := fun a => A.add a (A.add a a)
  fo (mu P.1 Q.1) fun xx => fo (mu P.2.1 Q.2.1) fun yy => fo (mu P.2.2 Q.2.2) fun zz =>
  fo (ad (mu P.1 Q.2.1) (mu Q.1 P.2.1)) fun xy => fo (ad (mu P.2.1 Q.2.2) (mu Q.2.1 P.2.2)) fun yz => fo (ad (mu P.1 Q.2.2) (mu Q.1 P.2.2)) fun xz =>
  fo (th (su xz (mu b zz))) fun u => fo (su yy u) fun m => fo (ad yy u) fun n => fo (th (su (su (mu b xz) (th zz)) xx)) fun v => fo (su (th xx) (th zz)) fun w =>
  fo (su (mu xy n) (mu yz v)) fun X => fo (ad (mu n m) (mu w v)) fun Y => fo (ad (mu yz m) (mu xy w)) fun Z => k (X, Y, Z)
theorem caddK_eq {T : Type} {fo : Fo T} (h : Law fo) (A : Alg T) (b : T) (P Q : T × T × T) (k : T × T × T → Bool) : caddK fo A b P Q k = k (caddA A b P Q) := by
  unfold Law at h
  simp only [caddK, caddA, h]
def Ini.K (fo : Fo S) (A : Alg S) (c : Ini S) (t : Oct S → Bool) : Bool :=
  let f := fo2 (fo2 (fo2 fo))
  caddK f (c.alg A) (upO c.o c.b) c.P c.Q fun PQ => caddK f (c.alg A) (upO c.o c.b) PQ c.R fun L =>
  caddK f (c.alg A) (upO c.o c.b) c.Q c.R fun QR => caddK f (c.alg A) (upO c.o c.b) c.P QR fun M =>
  f (crossV (c.alg A) L.1 M.2.2 M.1 L.2.2) fun C1 => f (crossV (c.alg A) L.2.1 M.2.2 M.2.1 L.2.2) fun C2 => t C1 && t C2
theorem Ini.K_eq {fo : Fo S} (h : Law fo) (A : Alg S) (c : Ini S) (t : Oct S → Bool) : c.K fo A t = (t (c.C1 A) && t (c.C2 A)) := by
  have h' := law2 (law2 (law2 h))
  simp only [Ini.K, caddK_eq h']
  unfold Law at h'
  simp only [h']
  rfl
def all8 (t : S → Bool) (a : Oct S) : Bool := t a.1.1.1 && t a.1.1.2 && t a.1.2.1 && t a.1.2.2 && t a.2.1.1 && t a.2.1.2 && t a.2.2.1 && t a.2.2.2
end

/-! ### Values and norms of lists -/
def evZ {R : Type} (ev : R → Int) (x : Int) : List R → Int
  | [] => 0
  | a :: p => ev a + x * evZ ev x p
structure SemZ {R : Type} (A : Alg R) (ev : R → Int) : Prop where
  add : ∀ a b, ev (A.add a b) = ev a + ev b
  mul : ∀ a b, ev (A.mul a b) = ev a * ev b
  neg : ∀ a, ev (A.neg a) = - ev a
  zero : ev A.zero = 0
  isZ : ∀ a, A.isZ a = true → ev a = 0
theorem semZ0 : SemZ intAlg (fun z => z) := ⟨fun _ _ => rfl, fun _ _ => rfl, fun _ => rfl, rfl, fun a h => by simpa [intAlg] using h⟩
theorem semZL {R : Type} {A : Alg R} {ev : R → Int} (h : SemZ A ev) (x : Int) : SemZ (listAlg A) (evZ ev x) := by
  have hadd : ∀ a b : List R, evZ ev x (addL A a b) = evZ ev x a + evZ ev x b := by
    intro a
    induction a with
    | nil => intro b; simp only [addL, evZ]; grind
    | cons a p ih =>
      intro b
      cases b with
      | nil => simp only [addL, evZ]; grind
      | cons b q => simp only [addL, evZ, h.add, ih]; grind
  have hscale : ∀ (a : R) (q : List R), evZ ev x (scaleL A a q) = ev a * evZ ev x q := by
    intro a q
    induction q with
    | nil => simp only [scaleL, evZ]; grind
    | cons b q ih => simp only [scaleL, evZ, h.mul, ih]; grind
  refine ⟨hadd, ?_, ?_, rfl, ?_⟩
  · intro a b
    show evZ ev x (mulL A a b) = _
    induction a with
    | nil => simp only [mulL, evZ]; grind
    | cons a p ih =>
      simp only [mulL]
      split
      · rename_i hz
        simp only [evZ, h.zero, ih, h.isZ a hz]; grind
      · simp only [hadd, hscale, evZ, h.zero, ih]; grind
  · intro a
    show evZ ev x (negL A a) = _
    induction a with
    | nil => simp only [negL, evZ]; grind
    | cons a p ih => simp only [negL, evZ, h.neg, ih]; grind
  · intro a
    show isZL A a = true → _
    induction a with
    | nil => intro _; rfl
    | cons a p ih =>
      intro hz
      simp only [isZL, Bool.and_eq_true] at hz
      simp only [evZ, h.isZ a hz.1, ih hz.2]; grind
theorem SemZ.lg {R : Type} {A : Alg R} {ev : R → Int} (h : SemZ A ev) : Lg A intAlg (fun a z => ev a = z) :=
  ⟨fun h1 h2 => by rw [h.add, h1, h2]; rfl, fun h1 h2 => by rw [h.mul, h1, h2]; rfl, fun h1 => by rw [h.neg, h1]; rfl⟩

def nL {R : Type} (nr : R → Nat) (x : Nat) : List R → Nat
  | [] => 0
  | a :: p => nr a + x * nL nr x p
structure Nm {R : Type} (A : Alg R) (nr : R → Nat) : Prop where
  add : ∀ a b, nr (A.add a b) ≤ nr a + nr b
  mul : ∀ a b, nr (A.mul a b) ≤ nr a * nr b
  neg : ∀ a, nr (A.neg a) ≤ nr a
  zero : nr A.zero = 0
theorem nm0 : Nm intAlg Int.natAbs := ⟨fun a b => Int.natAbs_add_le a b, fun a b => Nat.le_of_eq (Int.natAbs_mul a b), fun a => Nat.le_of_eq (Int.natAbs_neg a), rfl⟩
theorem nmL {R : Type} {A : Alg R} {nr : R → Nat} (h : Nm A nr) (x : Nat) : Nm (listAlg A) (nL nr x) := by
  have hadd : ∀ a b : List R, nL nr x (addL A a b) ≤ nL nr x a + nL nr x b := by
    intro a
    induction a with
    | nil => intro b; simp only [addL, nL]; omega
    | cons a p ih =>
      intro b
      cases b with
      | nil => simp only [addL, nL]; omega
      | cons b q =>
        simp only [addL, nL]
        have h1 := h.add a b
        have h2 := Nat.mul_le_mul_left x (ih q)
        rw [Nat.mul_add] at h2
        omega
  have hscale : ∀ (a : R) (q : List R), nL nr x (scaleL A a q) ≤ nr a * nL nr x q := by
    intro a q
    induction q with
    | nil => simp only [scaleL, nL]; omega
    | cons b q ih =>
      simp only [scaleL, nL]
      have h1 := h.mul a b
      have h2 := Nat.mul_le_mul_left x ih
      rw [Nat.mul_add]
      have h3 : nr a * (x * nL nr x q) = x * (nr a * nL nr x q) := by rw [← Nat.mul_assoc, Nat.mul_comm (nr a) x, Nat.mul_assoc]
      omega
  refine ⟨hadd, ?_, ?_, rfl⟩
  · intro a b
    show nL nr x (mulL A a b) ≤ _
    induction a with
    | nil => simp only [mulL, nL]; omega
    | cons a p ih =>
      simp only [mulL]
      have h2 := Nat.mul_le_mul_left x ih
      have h3 : (nr a + x * nL nr x p) * nL nr x b = nr a * nL nr x b + x * (nL nr x p * nL nr x b) := by rw [Nat.add_mul, Nat.mul_assoc]
      split
      · simp only [nL, h.zero]
        rw [h3]
        have := Nat.zero_le (nr a * nL nr x b)
        omega
      · have h4 := hadd (scaleL A a b) (A.zero :: mulL A p b)
        have h5 := hscale a b
        simp only [nL, h.zero] at h4 ⊢
        rw [h3]
        omega
  · intro a
    show nL nr x (negL A a) ≤ _
    induction a with
    | nil => simp only [negL, nL]; omega
    | cons a p ih =>
      simp only [negL, nL]
      have h1 := h.neg a
      have h2 := Nat.mul_le_mul_left x ih
      omega
def natAlg : Alg Nat := ⟨fun a b => a + b, fun a b => a * b, fun a => a, 0, fun a => a == 0⟩
theorem Nm.lg {R : Type} {A : Alg R} {nr : R → Nat} (h : Nm A nr) : Lg A natAlg (fun a m => nr a ≤ m) :=
  ⟨fun h1 h2 => Nat.le_trans (h.add _ _) (Nat.add_le_add h1 h2), fun h1 h2 => Nat.le_trans (h.mul _ _) (Nat.mul_le_mul h1 h2), fun h1 => Nat.le_trans (h.neg _) h1⟩

/-- Nothing runs together. -/
theorem part_zero {R : Type} {ev : R → Int} {nr : R → Nat} (habs : ∀ a, (ev a).natAbs ≤ nr a) (B : Nat) : ∀ p : List R, evZ ev B p = 0 → nL nr 1 p < B → ∀ a ∈ p, ev a = 0
  | [], _, _, a, h => by cases h
  | a :: p, h0, hn, c, hc => by
    simp only [evZ, nL, Nat.one_mul] at h0 hn
    have h1 := habs a
    have hd : (B : Int) ∣ ev a := ⟨- evZ ev B p, by rw [Int.mul_neg]; omega⟩
    have ha : ev a = 0 := Int.eq_zero_of_dvd_of_natAbs_lt_natAbs hd (by simp; omega)
    rw [ha] at h0
    have hB : (B : Int) ≠ 0 := by omega
    have hp : evZ ev B p = 0 := by
      rcases Int.mul_eq_zero.1 (show (B : Int) * evZ ev B p = 0 by omega) with h | h
      · exact (hB h).elim
      · exact h
    rcases List.mem_cons.1 hc with e | e
    · rw [e]; exact ha
    · exact part_zero habs B p hp (by omega) c e
theorem part_le {R : Type} {nr : R → Nat} : ∀ {p : List R} {a : R}, a ∈ p → nr a ≤ nL nr 1 p
  | b :: p, a, h => by
    simp only [nL, Nat.one_mul]
    rcases List.mem_cons.1 h with e | e
    · rw [e]; omega
    · have := part_le (nr := nr) e; omega
theorem abs_le {R : Type} {ev : R → Int} {nr : R → Nat} (habs : ∀ a, (ev a).natAbs ≤ nr a) (B : Nat) : ∀ p : List R, (evZ ev B p).natAbs ≤ nL nr B p
  | [] => by simp [evZ, nL]
  | a :: p => by
    simp only [evZ, nL]
    have h1 := habs a
    have h2 := Nat.mul_le_mul_left B (abs_le habs B p)
    have h3 := Int.natAbs_add_le (ev a) ((B : Int) * evZ ev B p)
    rw [Int.natAbs_mul] at h3
    simp only [Int.natAbs_natCast] at h3
    omega
theorem all_zero {R : Type} {n : Nat} [NeZero n] {ev : R → Fin n} (x : Fin n) : ∀ {p : List R}, (∀ a ∈ p, ev a = 0) → evL ev x p = 0
  | [], _ => rfl
  | a :: p, h => by
    simp only [evL]
    rw [h a (by simp), all_zero x fun c hc => h c (by simp [hc])]
    grind

/-! ### Four variables -/
def ez (x1 x2 x3 x4 : Nat) : P4 → Int := evZ (evZ (evZ (evZ (fun z => z) x1) x2) x3) x4
def en (x1 x2 x3 x4 : Nat) : P4 → Nat := nL (nL (nL (nL Int.natAbs x1) x2) x3) x4
theorem four_zero {n : Nat} [NeZero n] (b x3 x2 x1 : Fin n) {B1 B2 B3 B4 : Nat} {c : P4} (h0 : ez B1 B2 B3 B4 c = 0) (h1 : en 1 1 1 1 c < B1) (h2 : en B1 1 1 1 c < B2) (h3 : en B1 B2 1 1 c < B3) (h4 : en B1 B2 B3 1 c < B4) :
    evL (evL (evL (evL (toF n) b) x3) x2) x1 c = 0 := by
  have a0 : ∀ z : Int, ((fun z => z) z : Int).natAbs ≤ Int.natAbs z := fun z => Nat.le_refl _
  have a1 := abs_le a0 B1
  have a2 := abs_le a1 B2
  have a3 := abs_le a2 B3
  refine all_zero x1 fun c3 m3 => all_zero x2 fun c2 m2 => all_zero x3 fun c1 m1 => all_zero b fun z mz => ?_
  have z3 := part_zero a3 B4 c h0 h4 c3 m3
  have z2 := part_zero a2 B3 c3 z3 (Nat.lt_of_le_of_lt (part_le m3) h3) c2 m2
  have z1 := part_zero a1 B2 c2 z2 (Nat.lt_of_le_of_lt (Nat.le_trans (part_le m2) (part_le m3)) h2) c1 m1
  have z0 := part_zero a0 B1 c1 z1 (Nat.lt_of_le_of_lt (Nat.le_trans (part_le m1) (Nat.le_trans (part_le m2) (part_le m3))) h1) z mz
  have z0' : z = 0 := z0
  rw [z0']
  exact toF_zero

/-! ### The calculation -/
def iniP : Ini P4 := ⟨[], c1, cB, cX1, cX2, cX3, fX1, fX2, fX3⟩
def Ini.map {R S : Type} (h : R → S) (c : Ini R) : Ini S := ⟨h c.o, h c.i, h c.b, h c.x1, h c.x2, h c.x3, h c.f1, h c.f2, h c.f3⟩
def K1 : Nat := 2 ^ 41
def K2 : Nat := 2 ^ 390
def K3 : Nat := 2 ^ 3768
def K4 : Nat := 2 ^ 48810
def foN (n : Nat) (k : Nat → Bool) : Bool :=
  match n with
  | 0 => k 0
  | m + 1 => k (m + 1)
def foI (z : Int) (k : Int → Bool) : Bool :=
  match z with
  | .ofNat n => foN n fun n => k (.ofNat n)
  | .negSucc n => foN n fun n => k (.negSucc n)
theorem lawN : Law foN := fun a k => by cases a <;> rfl
theorem lawI : Law foI := fun a k => match a with
  | .ofNat n => lawN n (fun n => k (.ofNat n))
  | .negSucc n => lawN n (fun n => k (.negSucc n))
/-- The numbers of the start, forced. -/
def Ini.foK {S : Type} (fo : Fo S) (c : Ini S) (k : Ini S → Bool) : Bool :=
  fo c.o fun o => fo c.i fun i => fo c.b fun b => fo c.x1 fun x1 => fo c.x2 fun x2 => fo c.x3 fun x3 => fo c.f1 fun f1 => fo c.f2 fun f2 => fo c.f3 fun f3 => k ⟨o, i, b, x1, x2, x3, f1, f2, f3⟩
theorem Ini.foK_eq {S : Type} {fo : Fo S} (h : Law fo) (c : Ini S) (k : Ini S → Bool) : c.foK fo k = k c := by
  unfold Law at h
  simp only [Ini.foK, h]
def testZ (x1 x2 x3 x4 : Nat) : Bool := (iniP.map (ez x1 x2 x3 x4)).foK foI fun c => c.K foI intAlg (all8 fun z => z == 0)
def testN (x1 x2 x3 : Nat) (m : Nat) : Bool := (iniP.map (en x1 x2 x3 1)).foK foN fun c => c.K foN natAlg (all8 fun z => Nat.blt z m)
theorem testZ_ok : testZ K1 K2 K3 K4 = true := by decide +kernel
theorem testN1 : testN 1 1 1 K1 = true := by decide +kernel
theorem testN2 : testN K1 1 1 K2 = true := by decide +kernel
theorem testN3 : testN K1 K2 1 K3 = true := by decide +kernel
theorem testN4 : testN K1 K2 K3 K4 = true := by decide +kernel

def Each {S : Type} (p : S → Prop) (a : Oct S) : Prop := (((p a.1.1.1 ∧ p a.1.1.2) ∧ (p a.1.2.1 ∧ p a.1.2.2)) ∧ ((p a.2.1.1 ∧ p a.2.1.2) ∧ (p a.2.2.1 ∧ p a.2.2.2)))
theorem all8_spec {S : Type} {t : S → Bool} {p : S → Prop} (h : ∀ s, t s = true → p s) {a : Oct S} (ht : all8 t a = true) : Each p a := by
  simp only [all8, Bool.and_eq_true] at ht
  obtain ⟨⟨⟨⟨⟨⟨⟨a1, a2⟩, a3⟩, a4⟩, a5⟩, a6⟩, a7⟩, a8⟩ := ht
  exact ⟨⟨⟨h _ a1, h _ a2⟩, ⟨h _ a3, h _ a4⟩⟩, ⟨⟨h _ a5, h _ a6⟩, ⟨h _ a7, h _ a8⟩⟩⟩
theorem each_of {R S : Type} {r : R → S → Prop} {p : S → Prop} {q : R → Prop} (h : ∀ a s, r a s → p s → q a) {a : Oct R} {s : Oct S} (hr : r2 (r2 (r2 r)) a s) (hs : Each p s) : Each q a :=
  ⟨⟨⟨h _ _ hr.1.1.1 hs.1.1.1, h _ _ hr.1.1.2 hs.1.1.2⟩, ⟨h _ _ hr.1.2.1 hs.1.2.1, h _ _ hr.1.2.2 hs.1.2.2⟩⟩, ⟨⟨h _ _ hr.2.1.1 hs.2.1.1, h _ _ hr.2.1.2 hs.2.1.2⟩, ⟨h _ _ hr.2.2.1 hs.2.2.1, h _ _ hr.2.2.2 hs.2.2.2⟩⟩⟩
theorem iniZ (x1 x2 x3 x4 : Nat) : Ini.Rl (fun a z => ez x1 x2 x3 x4 a = z) iniP (iniP.map (ez x1 x2 x3 x4)) := ⟨rfl, rfl, rfl, rfl, rfl, rfl, rfl, rfl, rfl⟩
theorem iniN (x1 x2 x3 x4 : Nat) : Ini.Rl (fun a m => en x1 x2 x3 x4 a ≤ m) iniP (iniP.map (en x1 x2 x3 x4)) :=
  ⟨Nat.le_refl _, Nat.le_refl _, Nat.le_refl _, Nat.le_refl _, Nat.le_refl _, Nat.le_refl _, Nat.le_refl _, Nat.le_refl _, Nat.le_refl _⟩
theorem semZ4 (x1 x2 x3 x4 : Nat) : SemZ a4 (ez x1 x2 x3 x4) := semZL (semZL (semZL (semZL semZ0 x1) x2) x3) x4
theorem nm4 (x1 x2 x3 x4 : Nat) : Nm a4 (en x1 x2 x3 x4) := nmL (nmL (nmL (nmL nm0 x1) x2) x3) x4
theorem valZ : Each (fun a => ez K1 K2 K3 K4 a = 0) (iniP.C1 a4) ∧ Each (fun a => ez K1 K2 K3 K4 a = 0) (iniP.C2 a4) := by
  have h := testZ_ok
  rw [testZ, Ini.foK_eq lawI, Ini.K_eq lawI, Bool.and_eq_true] at h
  obtain ⟨s1, s2⟩ := Ini.sides (semZ4 K1 K2 K3 K4).lg (iniZ K1 K2 K3 K4)
  have hz : ∀ s : Int, (s == 0) = true → s = 0 := fun s h => by simpa using h
  exact ⟨each_of (fun a s e k => e.trans k) s1 (all8_spec hz h.1), each_of (fun a s e k => e.trans k) s2 (all8_spec hz h.2)⟩
theorem valN {x1 x2 x3 m : Nat} (h : testN x1 x2 x3 m = true) : Each (fun a => en x1 x2 x3 1 a < m) (iniP.C1 a4) ∧ Each (fun a => en x1 x2 x3 1 a < m) (iniP.C2 a4) := by
  rw [testN, Ini.foK_eq lawN, Ini.K_eq lawN, Bool.and_eq_true] at h
  obtain ⟨s1, s2⟩ := Ini.sides (nm4 x1 x2 x3 1).lg (iniN x1 x2 x3 1)
  have hz : ∀ s : Nat, Nat.blt s m = true → s < m := fun s h => by simpa using h
  have hle : ∀ (a : P4) (s : Nat), en x1 x2 x3 1 a ≤ s → s < m → en x1 x2 x3 1 a < m := fun a s e k => Nat.lt_of_le_of_lt e k
  have a1 : Each (fun s => s < m) ((iniP.map (en x1 x2 x3 1)).C1 natAlg) := all8_spec hz h.1
  have a2 : Each (fun s => s < m) ((iniP.map (en x1 x2 x3 1)).C2 natAlg) := all8_spec hz h.2
  exact ⟨each_of (p := fun s => s < m) (q := fun a => en x1 x2 x3 1 a < m) hle s1 a1, each_of (p := fun s => s < m) (q := fun a => en x1 x2 x3 1 a < m) hle s2 a2⟩

theorem each_zero {n : Nat} [NeZero n] (b x3 x2 x1 : Fin n) {a : Oct P4} (h0 : Each (fun a => ez K1 K2 K3 K4 a = 0) a) (h1 : Each (fun a => en 1 1 1 1 a < K1) a) (h2 : Each (fun a => en K1 1 1 1 a < K2) a)
    (h3 : Each (fun a => en K1 K2 1 1 a < K3) a) (h4 : Each (fun a => en K1 K2 K3 1 a < K4) a) : Each (fun a => evL (evL (evL (evL (toF n) b) x3) x2) x1 a = 0) a :=
  ⟨⟨⟨four_zero b x3 x2 x1 h0.1.1.1 h1.1.1.1 h2.1.1.1 h3.1.1.1 h4.1.1.1, four_zero b x3 x2 x1 h0.1.1.2 h1.1.1.2 h2.1.1.2 h3.1.1.2 h4.1.1.2⟩,
    ⟨four_zero b x3 x2 x1 h0.1.2.1 h1.1.2.1 h2.1.2.1 h3.1.2.1 h4.1.2.1, four_zero b x3 x2 x1 h0.1.2.2 h1.1.2.2 h2.1.2.2 h3.1.2.2 h4.1.2.2⟩⟩,
   ⟨⟨four_zero b x3 x2 x1 h0.2.1.1 h1.2.1.1 h2.2.1.1 h3.2.1.1 h4.2.1.1, four_zero b x3 x2 x1 h0.2.1.2 h1.2.1.2 h2.2.1.2 h3.2.1.2 h4.2.1.2⟩,
    ⟨four_zero b x3 x2 x1 h0.2.2.1 h1.2.2.1 h2.2.2.1 h3.2.2.1 h4.2.2.1, four_zero b x3 x2 x1 h0.2.2.2 h1.2.2.2 h2.2.2.2 h3.2.2.2 h4.2.2.2⟩⟩⟩
theorem cross_zero {n : Nat} [NeZero n] (b x3 x2 x1 : Fin n) : Each (fun a => evL (evL (evL (evL (toF n) b) x3) x2) x1 a = 0) (iniP.C1 a4) ∧ Each (fun a => evL (evL (evL (evL (toF n) b) x3) x2) x1 a = 0) (iniP.C2 a4) :=
  ⟨each_zero b x3 x2 x1 valZ.1 (valN testN1).1 (valN testN2).1 (valN testN3).1 (valN testN4).1, each_zero b x3 x2 x1 valZ.2 (valN testN1).2 (valN testN2).2 (valN testN3).2 (valN testN4).2⟩
end Go.EC

/- The sum of three points does not depend on which two are added first. -/
namespace Go.EC
variable {n : Nat} [NeZero n]

section
variable {b x1 y1 x2 y2 x3 y3 : Fin n}
def e4 (b x1 x2 x3 : Fin n) : P4 → Fin n := evL (evL (evL (evL (toF n) b) x3) x2) x1
def e7 (b x1 y1 x2 y2 x3 y3 : Fin n) : Q3 → Fin n := evP (evP (evP (e4 b x1 x2 x3) y1) y2) y3

theorem sem4 : Sem a4 (e4 b x1 x2 x3) := listSem (listSem (listSem (listSem intSem b) x3) x2) x1
theorem evI_m3 : toF n (-3) = -3 := by
  rw [toF_neg]
  have : toF n 3 = 3 := by
    apply fin_ext
    rw [toF_val]
    show (3 : Int) % n = ((3 % n : Nat) : Int)
    simp
  rw [this]
theorem sem7 (h1 : y1 * y1 = rhs b x1) (h2 : y2 * y2 = rhs b x2) (h3 : y3 * y3 = rhs b x3) : Sem (iniP.alg a4) (e7 b x1 y1 x2 y2 x3 y3) := by
  refine pairSem (pairSem (pairSem sem4 ?_) ?_) ?_
  · rw [h1]; simp only [iniP, fX1, e4, evL, toF_one, toF_zero, evI_m3, rhs]; grind
  · rw [h2]; simp only [iniP, fX2, evP, e4, evL, toF_one, toF_zero, evI_m3, rhs]; grind
  · rw [h3]; simp only [iniP, fX3, evP, e4, evL, toF_one, toF_zero, evI_m3, rhs]; grind

theorem each_e7 {c : Q3} (h : Each (fun a => evL (evL (evL (evL (toF n) b) x3) x2) x1 a = 0) c) : e7 b x1 y1 x2 y2 x3 y3 c = 0 := by
  obtain ⟨⟨⟨a1, a2⟩, ⟨a3, a4⟩⟩, ⟨⟨a5, a6⟩, ⟨a7, a8⟩⟩⟩ := h
  simp only [e7, evP, e4, a1, a2, a3, a4, a5, a6, a7, a8]
  grind
theorem cross_spec {A : Alg Q3} {ev : Q3 → Fin n} (h : Sem A ev) {a b c d : Q3} (ht : ev (crossV A a b c d) = 0) : ev a * ev b = ev c * ev d := by
  rw [crossV, h.add, h.neg, h.mul, h.mul] at ht
  grind

theorem assoc_cross (h1 : y1 * y1 = rhs b x1) (h2 : y2 * y2 = rhs b x2) (h3 : y3 * y3 = rhs b x3) :
    let L := cadd b (cadd b ⟨x1, y1, 1⟩ ⟨x2, y2, 1⟩) ⟨x3, y3, 1⟩
    let M := cadd b ⟨x1, y1, 1⟩ (cadd b ⟨x2, y2, 1⟩ ⟨x3, y3, 1⟩)
    L.x * M.z = M.x * L.z ∧ L.y * M.z = M.y * L.z := by
  have hs := sem7 h1 h2 h3
  have eb : e7 b x1 y1 x2 y2 x3 y3 (upO iniP.o iniP.b) = b := by simp only [e7, upO, iniP, cB, evP, e4, evL, toF_one, toF_zero]; grind
  have eP : ev3 (e7 b x1 y1 x2 y2 x3 y3) iniP.P = ⟨x1, y1, 1⟩ := by
    simp only [ev3, Ini.P, Tri.mk.injEq, upO, iniP, cX1, c1, e7, evP, e4, evL, toF_one, toF_zero]
    refine ⟨?_, ?_, ?_⟩ <;> grind
  have eQ : ev3 (e7 b x1 y1 x2 y2 x3 y3) iniP.Q = ⟨x2, y2, 1⟩ := by
    simp only [ev3, Ini.Q, Tri.mk.injEq, upO, iniP, cX2, c1, e7, evP, e4, evL, toF_one, toF_zero]
    refine ⟨?_, ?_, ?_⟩ <;> grind
  have eR : ev3 (e7 b x1 y1 x2 y2 x3 y3) iniP.R = ⟨x3, y3, 1⟩ := by
    simp only [ev3, Ini.R, Tri.mk.injEq, upO, iniP, cX3, c1, e7, evP, e4, evL, toF_one, toF_zero]
    refine ⟨?_, ?_, ?_⟩ <;> grind
  have eL : ev3 (e7 b x1 y1 x2 y2 x3 y3) (iniP.L a4) = cadd b (cadd b ⟨x1, y1, 1⟩ ⟨x2, y2, 1⟩) ⟨x3, y3, 1⟩ := by
    rw [Ini.L, caddA_spec hs, caddA_spec hs, eb, eP, eQ, eR]
  have eM : ev3 (e7 b x1 y1 x2 y2 x3 y3) (iniP.M a4) = cadd b ⟨x1, y1, 1⟩ (cadd b ⟨x2, y2, 1⟩ ⟨x3, y3, 1⟩) := by
    rw [Ini.M, caddA_spec hs, caddA_spec hs, eb, eP, eQ, eR]
  obtain ⟨t1, t2⟩ := cross_zero b x3 x2 x1
  simp only [← eL, ← eM]
  exact ⟨cross_spec hs (each_e7 t1), cross_spec hs (each_e7 t2)⟩
end

theorem asum_none {iv : Fin n → Fin n} (P : Pt n) : asum iv P none = P := by cases P <;> rfl
theorem none_asum {iv : Fin n → Fin n} (P : Pt n) : asum iv none P = P := by cases P <;> rfl

theorem asum_assoc {b : Fin n} {iv : Fin n → Fin n} (g : Good b iv) {P Q R : Pt n} (hP : On b P) (hQ : On b Q) (hR : On b R) : asum iv (asum iv P Q) R = asum iv P (asum iv Q R) := by
  cases P with
  | none => rw [none_asum, none_asum]
  | some P =>
    cases Q with
    | none => rw [asum_none, none_asum]
    | some Q =>
      cases R with
      | none => rw [asum_none, asum_none]
      | some R =>
        obtain ⟨x1, y1⟩ := P
        obtain ⟨x2, y2⟩ := Q
        obtain ⟨x3, y3⟩ := R
        have r1 := rep_norm (b := b) g (P := some (x1, y1)) hP
        have r2 := rep_norm (b := b) g (P := some (x2, y2)) hQ
        have r3 := rep_norm (b := b) g (P := some (x3, y3)) hR
        have hc := assoc_cross hP hQ hR
        exact rep_eq g hc.1 hc.2 (rep_add g (rep_add g r1 r2) r3) (rep_add g r1 (rep_add g r2 r3))

theorem asum_comm {b : Fin n} {iv : Fin n → Fin n} (g : Good b iv) {P Q : Pt n} (hP : On b P) (hQ : On b Q) : asum iv P Q = asum iv Q P := by
  have r1 := rep_norm g hP
  have r2 := rep_norm g hQ
  have h1 := rep_add g r1 r2
  have h2 := rep_add g r2 r1
  rw [cadd_comm] at h2
  exact rep_eq g rfl rfl h1 h2
end Go.EC

/- Multiples of a point; coordinates x / z^2, y / z^3: the double and the sum with an affine point. -/
set_option linter.unusedSectionVars false
namespace Go.EC

section
variable {n : Nat} [NeZero n] {b : Fin n} {iv : Fin n → Fin n}

/-- So many times a point. -/
def nmul (iv : Fin n → Fin n) (P : Pt n) : Nat → Pt n
  | 0 => none
  | k + 1 => asum iv (nmul iv P k) P
theorem nmul_on (g : Good b iv) {P : Pt n} (hP : On b P) : ∀ k, On b (nmul iv P k)
  | 0 => trivial
  | k + 1 => asum_on g (nmul_on g hP k) hP
theorem nmul_add (g : Good b iv) {P : Pt n} (hP : On b P) (k : Nat) : ∀ l, nmul iv P (k + l) = asum iv (nmul iv P k) (nmul iv P l)
  | 0 => (asum_none _).symm
  | l + 1 => by rw [← Nat.add_assoc, nmul, nmul_add g hP k l, nmul, asum_assoc g (nmul_on g hP k) (nmul_on g hP l) hP]
theorem nmul_one {P : Pt n} : nmul iv P 1 = P := none_asum P
theorem nmul_two (g : Good b iv) {P : Pt n} (hP : On b P) (k : Nat) : nmul iv P (2 * k) = asum iv (nmul iv P k) (nmul iv P k) := by rw [Nat.two_mul, nmul_add g hP]
theorem nmul_none : ∀ k, nmul iv (none : Pt n) k = none
  | 0 => rfl
  | k + 1 => by rw [nmul, nmul_none k]; rfl

/-- Coordinates x / z^2, y / z^3. -/
def RepJ (b x y z : Fin n) : Pt n → Prop
  | none => z = 0
  | some (X, Y) => z ≠ 0 ∧ x = X * (z * z) ∧ y = Y * (z * (z * z)) ∧ Y * Y = rhs b X

theorem asum_dbl (g : Good b iv) {X Y : Fin n} (h : Y * Y = rhs b X) : asum iv (some (X, Y)) (some (X, Y)) = chord X Y X Y ((3 * (X * X) - 3) * iv (Y + Y)) := by
  have hy := on_ne g h
  simp only [asum, ne_eq, not_true_eq_false, if_false, false_or, hy]
theorem dbl_ne (g : Good b iv) {Y : Fin n} (h : Y ≠ 0) : Y + Y ≠ 0 := fun e => mul_ne g g.two h (by grind)
theorem jdbl_x {X Y z s : Fin n} (hs : s * (Y + Y) = 3 * (X * X) - 3) :
    (let x := X * (z * z); let y := Y * (z * (z * z)); let d := z * z; let gm := y * y; let be := x * gm; let al := 3 * ((x - d) * (x + d)); let fo := 4 * be; al * al - (fo + fo)) = (s * s - X - X) * ((2 * (Y * (z * (z * z)) * z)) * (2 * (Y * (z * (z * z)) * z))) := by
  simp only
  have : 3 * ((X * (z * z) - z * z) * (X * (z * z) + z * z)) = s * (2 * (Y * (z * (z * z)) * z)) := by grind
  rw [this]
  grind
/-- The double. -/
theorem rep_jdbl (g : Good b iv) {x y z : Fin n} : ∀ {P : Pt n}, RepJ b x y z P →
    RepJ b (let d := z * z; let gm := y * y; let be := x * gm; let al := 3 * ((x - d) * (x + d)); let fo := 4 * be; al * al - (fo + fo))
      (let d := z * z; let gm := y * y; let be := x * gm; let al := 3 * ((x - d) * (x + d)); let fo := 4 * be; al * (fo - (al * al - (fo + fo))) - 8 * (gm * gm)) (2 * (y * z)) (asum iv P P)
  | none, h => by
    have hz : z = 0 := h
    show 2 * (y * z) = 0
    rw [hz]
    grind
  | some (X, Y), h => by
    obtain ⟨hz, hx, hy, hc⟩ := h
    have hY := on_ne g hc
    have hd := dbl_ne g hY
    rw [asum_dbl g hc]
    have hs := inv_mul_eq (a := 3 * (X * X) - 3) g hd
    generalize (3 * (X * X) - 3) * iv (Y + Y) = s at *
    have hon : On b (chord X Y X Y s) := tangent_on hc hs
    have e1 := jdbl_x (z := z) hs
    have ea : 3 * ((X * (z * z) - z * z) * (X * (z * z) + z * z)) = s * (2 * (Y * (z * (z * z)) * z)) := by clear hz hY hd hon e1 hc; grind
    refine ⟨?_, ?_, ?_, hon⟩
    · rw [hy]
      have h1 := mul_ne g hz hz
      have h2 := mul_ne g hz h1
      exact mul_ne g g.two (mul_ne g (mul_ne g hY h2) hz)
    · simp only at e1 ⊢
      rw [hx, hy]
      exact e1
    · simp only at e1 ⊢
      rw [hx, hy, e1, ea]
      clear hz hY hd hon e1 hc ea hs
      grind

/-- The sum with an affine point, the chord's case. -/
theorem rep_jadd (g : Good b iv) {x y z X2 Y2 : Fin n} {P : Pt n} (hP : RepJ b x y z P) (hz : z ≠ 0) (h2 : Y2 * Y2 = rhs b X2) :
    (X2 * (z * z) - x = 0 → Y2 * (z * (z * z)) - y = 0 → P = some (X2, Y2)) ∧
    (¬ (X2 * (z * z) - x = 0 ∧ Y2 * (z * (z * z)) - y = 0) →
      RepJ b (let h := X2 * (z * z) - x; let r := Y2 * (z * (z * z)) - y; let hh := h * h; let v := x * hh; r * r - h * hh - (v + v))
        (let h := X2 * (z * z) - x; let r := Y2 * (z * (z * z)) - y; let hh := h * h; let v := x * hh; r * (v - (r * r - h * hh - (v + v))) - y * (h * hh)) (z * (X2 * (z * z) - x)) (asum iv P (some (X2, Y2)))) := by
  match P, hP with
  | none, hP => exact (hz hP).elim
  | some (X, Y), hP =>
    obtain ⟨_, hx, hy, hc⟩ := hP
    have z2 := mul_ne g hz hz
    have z3 := mul_ne g hz z2
    refine ⟨fun e1 e2 => ?_, fun hn => ?_⟩
    · have a1 : X = X2 := eq_of_mul g z2 (by rw [← hx]; clear hc h2 z2 z3 hz e2 hy; grind)
      have a2 : Y = Y2 := eq_of_mul g z3 (by rw [← hy]; clear hc h2 z2 z3 hz e1 hx; grind)
      rw [a1, a2]
    · by_cases hX : X = X2
      · subst hX
        have hY : Y ≠ Y2 := fun e => hn ⟨by rw [hx]; grind, by rw [hy, e]; grind⟩
        have e : asum iv (some (X, Y)) (some (X, Y2)) = none := by simp only [asum, ne_eq, not_true_eq_false, if_false, hY, not_false_eq_true, true_or, if_true]
        rw [e]
        show z * (X * (z * z) - x) = 0
        rw [hx]
        grind
      · have e : asum iv (some (X, Y)) (some (X2, Y2)) = chord X Y X2 Y2 ((Y2 - Y) * iv (X2 - X)) := by simp only [asum, ne_eq, hX, not_false_eq_true, if_true]
        rw [e]
        have hd : X2 - X ≠ 0 := fun k => hX (by grind)
        have hs := inv_mul_eq (a := Y2 - Y) g hd
        generalize (Y2 - Y) * iv (X2 - X) = s at *
        have hon : On b (chord X Y X2 Y2 s) := chord_on g hc h2 hX hs
        have eh : X2 * (z * z) - X * (z * z) = (X2 - X) * (z * z) := by grind
        have er : Y2 * (z * (z * z)) - Y * (z * (z * z)) = s * (z * ((X2 - X) * (z * z))) := by clear hon hn e hd hX z2 z3 hz hc h2; grind
        refine ⟨?_, ?_, ?_, hon⟩
        · rw [hx, eh]
          exact mul_ne g hz (mul_ne g hd z2)
        · simp only
          rw [hx, hy, er, eh]
          clear hon hn e hd hX z2 z3 hz hc h2 er eh hs hx hy
          grind
        · simp only
          rw [hx, hy, er, eh]
          clear hon hn e hd hX z2 z3 hz hc h2 er eh hs hx hy
          grind
theorem rep_jone (g : Good b iv) {X2 Y2 : Fin n} (h2 : Y2 * Y2 = rhs b X2) : RepJ b X2 Y2 1 (some (X2, Y2)) := ⟨fun k => g.one k.symm, by grind, by grind, h2⟩
/-- Back to two coordinates. -/
theorem rep_jback (g : Good b iv) {x y z : Fin n} {P : Pt n} (h : RepJ b x y z P) : (z = 0 → P = none) ∧ (z ≠ 0 → P = some (x * (iv z * iv z), y * (iv z * iv z * iv z))) := by
  match P, h with
  | none, h => exact ⟨fun _ => rfl, fun k => (k h).elim⟩
  | some (X, Y), h =>
    obtain ⟨hz, hx, hy, hc⟩ := h
    refine ⟨fun k => (hz k).elim, fun _ => ?_⟩
    have hi := g.inv z hz
    have e1 : x * (iv z * iv z) = X := by rw [hx]; clear hc hz hy; grind
    have e2 : y * (iv z * iv z * iv z) = Y := by rw [hy]; clear hc hz hx; grind
    rw [e1, e2]
end
end Go.EC
