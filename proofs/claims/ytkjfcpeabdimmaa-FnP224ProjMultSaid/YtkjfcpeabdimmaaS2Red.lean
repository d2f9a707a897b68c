/- The reference's rest modulo the prime. -/
import Derived.Test.YtkjfcpeabdimmaaS2Word
set_option linter.unusedVariables false
set_option linter.unusedSimpArgs false
set_option linter.constructorNameAsVariable false
set_option maxRecDepth 100000
set_option maxHeartbeats 4000000
namespace Go.Sx
open Go.Proofs Go.FP Go.EC

/-- Below the prime, or the prime taken off. -/
def finVC (Q : List Int → Prop) (n : Nat) (b0 b1 b2 b3 b4 b5 b6 : Int) : Prop :=
  (relsF 21).pre [b0, b1, b2, b3, b4, b5, b6, 1, 0, 0, 4294967295, 4294967295, 4294967295, 4294967295] ∧ ∀ r : Int, (relsF 21).post [b0, b1, b2, b3, b4, b5, b6, 1, 0, 0, 4294967295, 4294967295, 4294967295, 4294967295] [r] →
  ∀ s : Int, s = (if r = 0 then 1 else 0) → match n with
  | 0 => False
  | _ + 1 => (s ≠ 0 → ∀ c0 : Int, c0 = binFn .sub .i64 b0 1 → ∀ c1 : Int, c1 = binFn .sub .i64 b1 0 → ∀ c2 : Int, c2 = binFn .sub .i64 b2 0 → ∀ c3 : Int, c3 = binFn .sub .i64 b3 4294967295 →
      ∀ c4 : Int, c4 = binFn .sub .i64 b4 4294967295 → ∀ c5 : Int, c5 = binFn .sub .i64 b5 4294967295 → ∀ c6 : Int, c6 = binFn .sub .i64 b6 4294967295 →
      (relsF 27).pre [c0, c1, c2, c3, c4, c5, c6] ∧ ∀ e0 e1 e2 e3 e4 e5 e6 d : Int, (relsF 27).post [c0, c1, c2, c3, c4, c5, c6] [e0, e1, e2, e3, e4, e5, e6, d] → Q [e0, e1, e2, e3, e4, e5, e6]) ∧
    (s = 0 → Q [b0, b1, b2, b3, b4, b5, b6])
/-- What is carried out of the highest word is folded in, until nothing is. -/
def redVC (Q : List Int → Prop) : Nat → Int → Int → Int → Int → Int → Int → Int → Prop
  | n, a0, a1, a2, a3, a4, a5, a6 => (relsF 27).pre [a0, a1, a2, a3, a4, a5, a6] ∧ ∀ b0 b1 b2 b3 b4 b5 b6 d : Int, (relsF 27).post [a0, a1, a2, a3, a4, a5, a6] [b0, b1, b2, b3, b4, b5, b6, d] →
    ∀ r : Int, r = (if cmpFn .neq d 0 = true then 1 else 0) → match n with
    | 0 => False
    | n + 1 => (r ≠ 0 → ∀ m : Int, m = binFn .mul .i64 d 1 → ∀ f3 : Int, f3 = binFn .add .i64 b3 m → ∀ k : Int, k = binFn .mul .i64 d (-1) → ∀ f0 : Int, f0 = binFn .add .i64 b0 k → redVC Q n f0 b1 b2 f3 b4 b5 b6) ∧
      (r = 0 → finVC Q n b0 b1 b2 b3 b4 b5 b6)

theorem val32_7 (x0 x1 x2 x3 x4 x5 x6 : Int) : val32 [x0, x1, x2, x3, x4, x5, x6] = x0 + 4294967296 * x1 + 18446744073709551616 * x2 + 79228162514264337593543950336 * x3 + 340282366920938463463374607431768211456 * x4 + 1461501637330902918203684832716283019655932542976 * x5 + 6277101735386680763835789423207666416102355444464034512896 * x6 := by
  simp only [val32, valL]; omega
theorem rng7 {b x0 x1 x2 x3 x4 x5 x6 : Int} : rng b [x0, x1, x2, x3, x4, x5, x6] ↔ (0 ≤ x0 ∧ x0 < b) ∧ (0 ≤ x1 ∧ x1 < b) ∧ (0 ≤ x2 ∧ x2 < b) ∧ (0 ≤ x3 ∧ x3 < b) ∧ (0 ≤ x4 ∧ x4 < b) ∧ (0 ≤ x5 ∧ x5 < b) ∧ (0 ≤ x6 ∧ x6 < b) := by
  simp only [rng, and_true]
  constructor
  · rintro ⟨a, b, c, d, e, f, g, h, i, j, k, l, m, n⟩; exact ⟨⟨a, b⟩, ⟨c, d⟩, ⟨e, f⟩, ⟨g, h⟩, ⟨i, j⟩, ⟨k, l⟩, m, n⟩
  · rintro ⟨⟨a, b⟩, ⟨c, d⟩, ⟨e, f⟩, ⟨g, h⟩, ⟨i, j⟩, ⟨k, l⟩, m, n⟩; exact ⟨a, b, c, d, e, f, g, h, i, j, k, l, m, n⟩
theorem val32_lt {x0 x1 x2 x3 x4 x5 x6 : Int} (h : r32 [x0, x1, x2, x3, x4, x5, x6]) : 0 ≤ val32 [x0, x1, x2, x3, x4, x5, x6] ∧ val32 [x0, x1, x2, x3, x4, x5, x6] < 26959946667150639794667015087019630673557916260026308143510066298881 + 79228162514264337593543950335 := by
  rw [val32_7]
  have := rng7.1 h
  omega

/-- What is carried, by its relation. -/
theorem carried_post {a0 a1 a2 a3 a4 a5 a6 b0 b1 b2 b3 b4 b5 b6 d : Int} (h : (relsF 27).post [a0, a1, a2, a3, a4, a5, a6] [b0, b1, b2, b3, b4, b5, b6, d]) :
    r32 [b0, b1, b2, b3, b4, b5, b6] ∧ val32 [a0, a1, a2, a3, a4, a5, a6] = val32 [b0, b1, b2, b3, b4, b5, b6] + 26959946667150639794667015087019630673557916260026308143510066298881 * d + 79228162514264337593543950335 * d := by
  refine ⟨h.1, ?_⟩
  have h2 : val32 [a0, a1, a2, a3, a4, a5, a6] = val32 [b0, b1, b2, b3, b4, b5, b6, d] := h.2
  rw [h2]
  simp only [val32, valL]
  omega
theorem pV : val32 [1, 0, 0, 4294967295, 4294967295, 4294967295, 4294967295] = pI := by decide

theorem fold_val {b0 b1 b2 b3 b4 b5 b6 d : Int} : val32 [b0 - d, b1, b2, b3 + d, b4, b5, b6] = val32 [b0, b1, b2, b3, b4, b5, b6] + 79228162514264337593543950335 * d := by
  rw [val32_7, val32_7]
  omega
theorem red_step {Q : List Int → Prop} {n : Nat} {b0 b1 b2 b3 b4 b5 b6 d r : Int} (k1 : r32 [b0, b1, b2, b3, b4, b5, b6]) (hd : -16 ≤ d ∧ d ≤ 16) (er : r = (if cmpFn .neq d 0 = true then 1 else 0))
    (hz : d = 0 → finVC Q n b0 b1 b2 b3 b4 b5 b6) (hn : d ≠ 0 → redVC Q n (b0 - d) b1 b2 (b3 + d) b4 b5 b6) :
    (r ≠ 0 → ∀ m : Int, m = binFn .mul .i64 d 1 → ∀ f3 : Int, f3 = binFn .add .i64 b3 m → ∀ k : Int, k = binFn .mul .i64 d (-1) → ∀ f0 : Int, f0 = binFn .add .i64 b0 k → redVC Q n f0 b1 b2 f3 b4 b5 b6) ∧
      (r = 0 → finVC Q n b0 b1 b2 b3 b4 b5 b6) := by
  have hb := rng7.1 k1
  have he := cmp_ite er
  refine ⟨fun hr m em f3 e3 k ek f0 e0 => ?_, fun hr => hz ?_⟩
  · rw [mul_i64 _ _ (by omega) (by omega)] at em ek
    rw [add_i64 _ _ (by omega) (by omega)] at e3 e0
    have h3 : f3 = b3 + d := by omega
    have h0 : f0 = b0 - d := by omega
    rw [h3, h0]
    exact hn (by have := he.1 hr; simpa [cmpFn] using this)
  · have : ¬ (cmpFn .neq d 0 = true) := fun k => he.2 k hr
    simpa [cmpFn] using this
section
variable {Q : List Int → Prop} {V : Int}
  (hQ : ∀ o : List Int, o.length = 7 → ok32 o → (∃ q, val32 o = V + q * pI) → Q o)
include hQ
theorem finVC_of {n : Nat} {b0 b1 b2 b3 b4 b5 b6 q : Int} (hr : r32 [b0, b1, b2, b3, b4, b5, b6]) (hv : val32 [b0, b1, b2, b3, b4, b5, b6] = V + q * pI) : finVC Q (n + 1) b0 b1 b2 b3 b4 b5 b6 := by
  have hb := rng7.1 hr
  have hlt := val32_lt hr
  refine ⟨?_, fun r hr' s es => ⟨fun hs => ?_, fun hs => ?_⟩⟩
  · show rng 4294967296 [b0, b1, b2, b3, b4, b5, b6, 1, 0, 0, 4294967295, 4294967295, 4294967295, 4294967295]
    simp only [rng, and_true]
    omega
  · have hp : (val32 [b0, b1, b2, b3, b4, b5, b6] < val32 [1, 0, 0, 4294967295, 4294967295, 4294967295, 4294967295] → r = 1) ∧ (¬ _ → r = 0) := hr'
    have hge : ¬ val32 [b0, b1, b2, b3, b4, b5, b6] < pI := fun k => by
      have := hp.1 (by rw [pV]; exact k)
      rw [this] at es
      exact hs (by rw [es]; decide)
    intro c0 g0 c1 g1 c2 g2 c3 g3 c4 g4 c5 g5 c6 g6
    rw [sub_i64 _ _ (by omega) (by omega)] at g0 g1 g2 g3 g4 g5 g6
    refine ⟨?_, fun e0 e1 e2 e3 e4 e5 e6 d hd => ?_⟩
    · show bnd 1099511627776 [c0, c1, c2, c3, c4, c5, c6]
      simp only [bnd, and_true]
      omega
    · obtain ⟨k1, k2⟩ := carried_post hd
      have k3 := val32_lt k1
      have k4 : val32 [c0, c1, c2, c3, c4, c5, c6] = val32 [b0, b1, b2, b3, b4, b5, b6] - pI := by
        rw [val32_7, val32_7, g0, g1, g2, g3, g4, g5, g6]
        simp only [pI]
        clear k1 k2 k3 hd hr' hp es
        omega
      have k5 : d = 0 := by
        rw [k4] at k2
        simp only [pI] at k2 hge
        generalize val32 [b0, b1, b2, b3, b4, b5, b6] = B at *
        generalize val32 [e0, e1, e2, e3, e4, e5, e6] = E at *
        clear hb hr' hp es
        omega
      subst k5
      have k6 : val32 [e0, e1, e2, e3, e4, e5, e6] = val32 [b0, b1, b2, b3, b4, b5, b6] - pI := by omega
      refine hQ _ rfl ⟨k1, ?_⟩ ⟨q - 1, ?_⟩
      · rw [k6]
        simp only [pI] at hge ⊢
        generalize val32 [b0, b1, b2, b3, b4, b5, b6] = B at *
        clear hb hr' hp es
        omega
      · rw [k6, hv, Int.sub_mul]
        omega
  · have hp : (val32 [b0, b1, b2, b3, b4, b5, b6] < val32 [1, 0, 0, 4294967295, 4294967295, 4294967295, 4294967295] → r = 1) ∧ (¬ (val32 [b0, b1, b2, b3, b4, b5, b6] < val32 [1, 0, 0, 4294967295, 4294967295, 4294967295, 4294967295]) → r = 0) := hr'
    refine hQ _ rfl ⟨hr, ?_⟩ ⟨q, hv⟩
    apply Classical.byContradiction
    intro k
    have := hp.2 (by rw [pV]; exact k)
    rw [this, if_pos rfl] at es
    omega

theorem red1 {n : Nat} {a0 a1 a2 a3 a4 a5 a6 q : Int} (hb : bnd 1099511627776 [a0, a1, a2, a3, a4, a5, a6]) (h0 : 0 ≤ val32 [a0, a1, a2, a3, a4, a5, a6])
    (h1 : val32 [a0, a1, a2, a3, a4, a5, a6] < 26959946667150639794667015087019630673557916260026308143510066298881 + 79228162514264337593543950335) (hv : val32 [a0, a1, a2, a3, a4, a5, a6] = V + q * pI) : redVC Q (n + 2) a0 a1 a2 a3 a4 a5 a6 := by
  refine ⟨hb, fun b0 b1 b2 b3 b4 b5 b6 d hd r er => ?_⟩
  obtain ⟨k1, k2⟩ := carried_post hd
  have k3 := val32_lt k1
  have hd0 : d = 0 := by
    generalize val32 [a0, a1, a2, a3, a4, a5, a6] = A at *
    generalize val32 [b0, b1, b2, b3, b4, b5, b6] = B at *
    clear hd er hQ hb
    omega
  subst hd0
  refine ⟨fun hr => (hr (by rw [er]; decide)).elim, fun _ => finVC_of hQ (q := q) k1 ?_⟩
  omega
theorem red2 {n : Nat} {a0 a1 a2 a3 a4 a5 a6 q : Int} (hb : bnd 1099511627776 [a0, a1, a2, a3, a4, a5, a6]) (h0 : -1267650600228229401496703205376 ≤ val32 [a0, a1, a2, a3, a4, a5, a6])
    (h1 : val32 [a0, a1, a2, a3, a4, a5, a6] < 26959946667150639794667015087019630673557916260026308143510066298881 + 1267650600228229401496703205376) (hv : val32 [a0, a1, a2, a3, a4, a5, a6] = V + q * pI) : redVC Q (n + 3) a0 a1 a2 a3 a4 a5 a6 := by
  refine ⟨hb, fun b0 b1 b2 b3 b4 b5 b6 d hd r er => ?_⟩
  obtain ⟨k1, k2⟩ := carried_post hd
  have k3 := val32_lt k1
  have hd0 : -1 ≤ d ∧ d ≤ 1 := by
    generalize val32 [a0, a1, a2, a3, a4, a5, a6] = A at *
    generalize val32 [b0, b1, b2, b3, b4, b5, b6] = B at *
    clear hd er hQ hb
    omega
  have k4 := rng7.1 k1
  refine red_step k1 (by omega) er (fun hz => finVC_of hQ (q := q) k1 (by subst hz; omega)) fun hz => red1 hQ (q := q - d) ?_ ?_ ?_ ?_
  · simp only [bnd, and_true]; omega
  · rw [fold_val]
    generalize val32 [a0, a1, a2, a3, a4, a5, a6] = A at *
    generalize val32 [b0, b1, b2, b3, b4, b5, b6] = B at *
    clear hd er hQ hb k4
    omega
  · rw [fold_val]
    generalize val32 [a0, a1, a2, a3, a4, a5, a6] = A at *
    generalize val32 [b0, b1, b2, b3, b4, b5, b6] = B at *
    clear hd er hQ hb k4
    omega
  · rw [fold_val, Int.sub_mul]
    simp only [pI] at hv ⊢
    omega
theorem red3 {n : Nat} {a0 a1 a2 a3 a4 a5 a6 q : Int} (hb : bnd 34359738368 [a0, a1, a2, a3, a4, a5, a6]) (hv : val32 [a0, a1, a2, a3, a4, a5, a6] = V + q * pI) : redVC Q (n + 4) a0 a1 a2 a3 a4 a5 a6 := by
  have hb' : bnd 1099511627776 [a0, a1, a2, a3, a4, a5, a6] := by simp only [bnd, and_true] at hb ⊢; omega
  refine ⟨hb', fun b0 b1 b2 b3 b4 b5 b6 d hd r er => ?_⟩
  obtain ⟨k1, k2⟩ := carried_post hd
  have k3 := val32_lt k1
  have hA : -269599466671506397946670150870196306735579162600263081435100662988800 ≤ val32 [a0, a1, a2, a3, a4, a5, a6] ∧ val32 [a0, a1, a2, a3, a4, a5, a6] ≤ 269599466671506397946670150870196306735579162600263081435100662988800 := by
    rw [val32_7]
    simp only [bnd, and_true] at hb
    clear hd er hQ hb' k1 k2 k3 hv
    omega
  have hd0 : -11 ≤ d ∧ d ≤ 11 := by
    generalize val32 [a0, a1, a2, a3, a4, a5, a6] = A at *
    generalize val32 [b0, b1, b2, b3, b4, b5, b6] = B at *
    clear hd er hQ hb hb'
    omega
  have k4 := rng7.1 k1
  refine red_step k1 (by omega) er (fun hz => finVC_of hQ (q := q) k1 (by subst hz; omega)) fun hz => red2 hQ (q := q - d) ?_ ?_ ?_ ?_
  · simp only [bnd, and_true]; omega
  · rw [fold_val]
    generalize val32 [a0, a1, a2, a3, a4, a5, a6] = A at *
    generalize val32 [b0, b1, b2, b3, b4, b5, b6] = B at *
    clear hd er hQ hb hb' k4
    omega
  · rw [fold_val]
    generalize val32 [a0, a1, a2, a3, a4, a5, a6] = A at *
    generalize val32 [b0, b1, b2, b3, b4, b5, b6] = B at *
    clear hd er hQ hb hb' k4
    omega
  · rw [fold_val, Int.sub_mul]
    simp only [pI] at hv ⊢
    omega
end

def tabR : List (FuncId × Con) := [(66, canCarried.con), (21, canBelow.con)]
theorem tabR_ok : ∀ f con, (f, con) ∈ tabR → ConOk Try.prog relsF f con := tab_cons carried_con (tab_cons below_con tab_nil)

theorem red7_cond : Can.cond (canReduced 7) Try.prog X2 tabR relsF 46 4 = ∀ x0 x1 x2 x3 x4 x5 x6 : Int, rngs (-9223372036854775808) 9223372036854775807 [x0, x1, x2, x3, x4, x5, x6]
    ((relsF 26).pre [x0, x1, x2, x3, x4, x5, x6] → redVC (fun o => (relsF 26).post [x0, x1, x2, x3, x4, x5, x6] o) 4 x0 x1 x2 x3 x4 x5 x6) := by kernel_rfl
theorem dec_of_q {o : List Int} {V q : Int} (h : val32 o = V + q * pI) : dec32 o = tF V := tF_q q h
theorem red7_con : ConOk Try.prog relsF 46 (canReduced 7).con := can_of_cond hX2 hm2 (tab := tabR) tabR_ok 4 (by decide) (by
  rw [red7_cond]
  intro x0 x1 x2 x3 x4 x5 x6
  refine rngs_of _ _ fun _ hp => red3 (V := val32 [x0, x1, x2, x3, x4, x5, x6]) (n := 0) (fun o hl ho ⟨q, hq⟩ => ⟨ho, dec_of_q hq⟩) (q := 0) ?_ (by omega)
  have hp' : bnd 8589934592 [x0, x1, x2, x3, x4, x5, x6] := hp
  simp only [bnd, and_true] at hp' ⊢
  omega)
theorem i_mul1 {x B r : Int} (a : -B ≤ x) (b : x ≤ B) (h : B ≤ 9223372036854775807) (e : r = binFn .mul .i64 x 1) : -B ≤ r ∧ r ≤ B ∧ r = x := by
  rw [mul_i64 _ _ (by omega) (by omega)] at e
  omega
theorem i_mulm {x B r : Int} (a : -B ≤ x) (b : x ≤ B) (h : B ≤ 9223372036854775807) (e : r = binFn .mul .i64 x (-1)) : -B ≤ r ∧ r ≤ B ∧ r = -x := by
  rw [mul_i64 _ _ (by omega) (by omega)] at e
  omega
theorem i_add {x y A B r : Int} (a : -A ≤ x) (b : x ≤ A) (c : -B ≤ y) (d : y ≤ B) (h : A + B ≤ 9223372036854775807) (e : r = binFn .add .i64 x y) : -(A + B) ≤ r ∧ r ≤ A + B ∧ r = x + y := by
  rw [add_i64 _ _ (by omega) (by omega)] at e
  omega
def fold14VC (Q : List Int → Prop) (x0 x1 x2 x3 x4 x5 x6 x7 x8 x9 x10 x11 x12 x13 : Int) : Prop :=
  ∀ r14 : Int, r14 = binFn .mul .i64 x13 1 →
  ∀ r15 : Int, r15 = binFn .add .i64 x9 r14 →
  ∀ r16 : Int, r16 = binFn .mul .i64 x13 (-1) →
  ∀ r17 : Int, r17 = binFn .add .i64 x6 r16 →
  ∀ r18 : Int, r18 = binFn .mul .i64 x12 1 →
  ∀ r19 : Int, r19 = binFn .add .i64 x8 r18 →
  ∀ r20 : Int, r20 = binFn .mul .i64 x12 (-1) →
  ∀ r21 : Int, r21 = binFn .add .i64 x5 r20 →
  ∀ r22 : Int, r22 = binFn .mul .i64 x11 1 →
  ∀ r23 : Int, r23 = binFn .add .i64 x7 r22 →
  ∀ r24 : Int, r24 = binFn .mul .i64 x11 (-1) →
  ∀ r25 : Int, r25 = binFn .add .i64 x4 r24 →
  ∀ r26 : Int, r26 = binFn .mul .i64 x10 1 →
  ∀ r27 : Int, r27 = binFn .add .i64 r17 r26 →
  ∀ r28 : Int, r28 = binFn .mul .i64 x10 (-1) →
  ∀ r29 : Int, r29 = binFn .add .i64 x3 r28 →
  ∀ r30 : Int, r30 = binFn .mul .i64 r15 1 →
  ∀ r31 : Int, r31 = binFn .add .i64 r21 r30 →
  ∀ r32 : Int, r32 = binFn .mul .i64 r15 (-1) →
  ∀ r33 : Int, r33 = binFn .add .i64 x2 r32 →
  ∀ r34 : Int, r34 = binFn .mul .i64 r19 1 →
  ∀ r35 : Int, r35 = binFn .add .i64 r25 r34 →
  ∀ r36 : Int, r36 = binFn .mul .i64 r19 (-1) →
  ∀ r37 : Int, r37 = binFn .add .i64 x1 r36 →
  ∀ r38 : Int, r38 = binFn .mul .i64 r23 1 →
  ∀ r39 : Int, r39 = binFn .add .i64 r29 r38 →
  ∀ r40 : Int, r40 = binFn .mul .i64 r23 (-1) →
  ∀ r41 : Int, r41 = binFn .add .i64 x0 r40 →
  redVC Q 4 r41 r37 r33 r39 r35 r31 r27
theorem red14_cond : Can.cond (canReduced 14) Try.prog X2 tabR relsF 46 4 = ∀ x0 x1 x2 x3 x4 x5 x6 x7 x8 x9 x10 x11 x12 x13 : Int, rngs (-9223372036854775808) 9223372036854775807 [x0, x1, x2, x3, x4, x5, x6, x7, x8, x9, x10, x11, x12, x13]
    ((relsF 26).pre [x0, x1, x2, x3, x4, x5, x6, x7, x8, x9, x10, x11, x12, x13] → fold14VC (fun o => (relsF 26).post [x0, x1, x2, x3, x4, x5, x6, x7, x8, x9, x10, x11, x12, x13] o) x0 x1 x2 x3 x4 x5 x6 x7 x8 x9 x10 x11 x12 x13) := by kernel_rfl
theorem red14_con : ConOk Try.prog relsF 46 (canReduced 14).con := can_of_cond hX2 hm2 (tab := tabR) tabR_ok 4 (by decide) (by
  rw [red14_cond]
  intro x0 x1 x2 x3 x4 x5 x6 x7 x8 x9 x10 x11 x12 x13
  refine rngs_of _ _ fun _ hp => ?_
  have hp' : bnd 8589934592 [x0, x1, x2, x3, x4, x5, x6, x7, x8, x9, x10, x11, x12, x13] := hp
  simp only [bnd, and_true] at hp'
  obtain ⟨a0, b0, a1, b1, a2, b2, a3, b3, a4, b4, a5, b5, a6, b6, a7, b7, a8, b8, a9, b9, a10, b10, a11, b11, a12, b12, a13, b13⟩ := hp'
  intro r14 e14 r15 e15 r16 e16 r17 e17 r18 e18 r19 e19 r20 e20 r21 e21 r22 e22 r23 e23 r24 e24 r25 e25 r26 e26 r27 e27 r28 e28 r29 e29 r30 e30 r31 e31 r32 e32 r33 e33 r34 e34 r35 e35 r36 e36 r37 e37 r38 e38 r39 e39 r40 e40 r41 e41
  obtain ⟨a14, b14, e14⟩ := i_mul1 a13 b13 (by decide) e14
  obtain ⟨a15, b15, e15⟩ := i_add a9 b9 a14 b14 (by decide) e15
  obtain ⟨a16, b16, e16⟩ := i_mulm a13 b13 (by decide) e16
  obtain ⟨a17, b17, e17⟩ := i_add a6 b6 a16 b16 (by decide) e17
  obtain ⟨a18, b18, e18⟩ := i_mul1 a12 b12 (by decide) e18
  obtain ⟨a19, b19, e19⟩ := i_add a8 b8 a18 b18 (by decide) e19
  obtain ⟨a20, b20, e20⟩ := i_mulm a12 b12 (by decide) e20
  obtain ⟨a21, b21, e21⟩ := i_add a5 b5 a20 b20 (by decide) e21
  obtain ⟨a22, b22, e22⟩ := i_mul1 a11 b11 (by decide) e22
  obtain ⟨a23, b23, e23⟩ := i_add a7 b7 a22 b22 (by decide) e23
  obtain ⟨a24, b24, e24⟩ := i_mulm a11 b11 (by decide) e24
  obtain ⟨a25, b25, e25⟩ := i_add a4 b4 a24 b24 (by decide) e25
  obtain ⟨a26, b26, e26⟩ := i_mul1 a10 b10 (by decide) e26
  obtain ⟨a27, b27, e27⟩ := i_add a17 b17 a26 b26 (by decide) e27
  obtain ⟨a28, b28, e28⟩ := i_mulm a10 b10 (by decide) e28
  obtain ⟨a29, b29, e29⟩ := i_add a3 b3 a28 b28 (by decide) e29
  obtain ⟨a30, b30, e30⟩ := i_mul1 a15 b15 (by decide) e30
  obtain ⟨a31, b31, e31⟩ := i_add a21 b21 a30 b30 (by decide) e31
  obtain ⟨a32, b32, e32⟩ := i_mulm a15 b15 (by decide) e32
  obtain ⟨a33, b33, e33⟩ := i_add a2 b2 a32 b32 (by decide) e33
  obtain ⟨a34, b34, e34⟩ := i_mul1 a19 b19 (by decide) e34
  obtain ⟨a35, b35, e35⟩ := i_add a25 b25 a34 b34 (by decide) e35
  obtain ⟨a36, b36, e36⟩ := i_mulm a19 b19 (by decide) e36
  obtain ⟨a37, b37, e37⟩ := i_add a1 b1 a36 b36 (by decide) e37
  obtain ⟨a38, b38, e38⟩ := i_mul1 a23 b23 (by decide) e38
  obtain ⟨a39, b39, e39⟩ := i_add a29 b29 a38 b38 (by decide) e39
  obtain ⟨a40, b40, e40⟩ := i_mulm a23 b23 (by decide) e40
  obtain ⟨a41, b41, e41⟩ := i_add a0 b0 a40 b40 (by decide) e41
  refine red3 (V := val32 [x0, x1, x2, x3, x4, x5, x6, x7, x8, x9, x10, x11, x12, x13]) (n := 0) (fun o hl ho ⟨q, hq⟩ => ⟨ho, dec_of_q hq⟩)
    (q := -(x7 + x11 + 4294967296 * (x8 + x12) + 18446744073709551616 * (x9 + x13) + 79228162514264337593543950336 * x10 + 340282366920938463463374607431768211456 * x11 + 1461501637330902918203684832716283019655932542976 * x12 + 6277101735386680763835789423207666416102355444464034512896 * x13)) ?_ ?_
  · simp only [bnd, and_true]
    refine ⟨Int.le_trans (by decide) a41, Int.le_trans b41 (by decide), Int.le_trans (by decide) a37, Int.le_trans b37 (by decide), Int.le_trans (by decide) a33, Int.le_trans b33 (by decide), Int.le_trans (by decide) a39, Int.le_trans b39 (by decide), Int.le_trans (by decide) a35, Int.le_trans b35 (by decide), Int.le_trans (by decide) a31, Int.le_trans b31 (by decide), Int.le_trans (by decide) a27, Int.le_trans b27 (by decide)⟩
  · subst e14 e15 e16 e17 e18 e19 e20 e21 e22 e23 e24 e25 e26 e27 e28 e29 e30 e31 e32 e33 e34 e35 e36 e37 e38 e39 e40 e41
    clear a0 b0 a1 b1 a2 b2 a3 b3 a4 b4 a5 b5 a6 b6 a7 b7 a8 b8 a9 b9 a10 b10 a11 b11 a12 b12 a13 b13 a14 b14 a15 b15 a16 b16 a17 b17 a18 b18 a19 b19 a20 b20 a21 b21 a22 b22 a23 b23 a24 b24 a25 b25 a26 b26 a27 b27 a28 b28 a29 b29 a30 b30 a31 b31 a32 b32 a33 b33 a34 b34 a35 b35 a36 b36 a37 b37 a38 b38 a39 b39 a40 b40 a41 b41
    simp only [val32, valL, pI]
    omega)
end Go.Sx
