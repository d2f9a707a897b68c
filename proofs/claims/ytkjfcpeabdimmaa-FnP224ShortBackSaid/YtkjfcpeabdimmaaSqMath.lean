/- The square root's rounds: squares of squares, and what each round keeps. -/
import Derived.Test.YtkjfcpeabdimmaaBaseMath
set_option linter.unusedVariables false
set_option linter.unusedSimpArgs false
set_option linter.constructorNameAsVariable false
namespace Go.FP
open Go.EC

/-- So many times the square. -/
def sqn (a : F) : Nat → F
  | 0 => a
  | n + 1 => sqn a n * sqn a n
theorem sqn_pow (a : F) : ∀ n : Nat, sqn a n = fpow a (2 ^ n)
  | 0 => by rw [sqn, Nat.pow_zero, fpow_one]
  | n + 1 => by rw [sqn, sqn_pow a n, ← fpow_add, Nat.pow_succ]; congr 1; omega
theorem sqn_mul (a c : F) (n : Nat) : sqn (a * c) n = sqn a n * sqn c n := by rw [sqn_pow, sqn_pow, sqn_pow, fpow_base]
theorem sqn_add (a : F) (m : Nat) : ∀ n : Nat, sqn a (m + n) = sqn (sqn a m) n
  | 0 => rfl
  | n + 1 => by rw [← Nat.add_assoc, sqn, sqn, sqn_add a m n]
theorem sqn_one : ∀ n : Nat, sqn 1 n = 1
  | 0 => rfl
  | n + 1 => by rw [sqn, sqn_one n]; grind

def gN : Nat := 11169653446152712093339033333591487117591829998258200989759472999284
def sqN : Nat → Nat → Nat
  | a, 0 => a
  | a, n + 1 => frc (a * a % p) fun c => sqN c n
theorem sqN_spec : ∀ (n a : Nat), nF (sqN a n) = sqn (nF a) n
  | 0, a => rfl
  | n + 1, a => by
    rw [sqN, frc_spec, sqN_spec n, Nat.add_comm n 1, sqn_add]
    congr 1
    rw [nF_mod, nF_mul, sqn, sqn]
def gF : F := nF gN
theorem gF_neg : sqn gF 95 = 0 - 1 := by
  rw [gF, ← sqN_spec]
  decide +kernel

/-- What a round keeps: r and v, after the exponent i. -/
def RootInv (x : F) (i : Nat) (r v : F) : Prop := r * r = x * v ∧ (x = 0 ∨ sqn v i = 1)
theorem one_or {n : Nat} [NeZero n] {iv : Fin n → Fin n} (hinv : ∀ a : Fin n, a ≠ 0 → a * iv a = 1) {w : Fin n} (h : w * w = 1) (hn : w ≠ 0 - 1) : w = 1 := by
  have hd : w + 1 ≠ 0 := fun e => hn (by grind)
  have h1 := hinv _ hd
  clear hn hd
  grind
theorem alg_r {n : Nat} [NeZero n] {x r v g h : Fin n} (hr : r * r = x * v) (hg : g = h * h) : (r * h) * (r * h) = x * (v * g) := by grind
theorem neg_neg1 {n : Nat} [NeZero n] : (0 - 1 : Fin n) * (0 - 1) = 1 := by grind
theorem mul_one1 {n : Nat} [NeZero n] (a : Fin n) : a * 1 = a := by grind
theorem RootInv.step {x r v : F} {i : Nat} (hi : i < 95) (h : RootInv x (i + 1) r v) :
    (sqn v i = 0 - 1 → RootInv x i (r * sqn gF (94 - i)) (v * sqn gF (95 - i))) ∧ (sqn v i ≠ 0 - 1 → RootInv x i r v) := by
  obtain ⟨h1, h2⟩ := h
  refine ⟨fun e => ⟨?_, .inr ?_⟩, fun e => ⟨h1, ?_⟩⟩
  · refine alg_r h1 ?_
    rw [show 95 - i = (94 - i) + 1 by omega, sqn]
  · rw [sqn_mul, e, ← sqn_add, show 95 - i + i = 95 by omega, gF_neg]
    exact neg_neg1
  · rcases h2 with h2 | h2
    · exact .inl h2
    · rw [sqn] at h2
      exact .inr (one_or (fun _ k => iv_mul k) h2 e)
theorem alg_s {n : Nat} [NeZero n] {x a b : Fin n} (h : a * x = b) : a * x * (a * x) = x * (a * a * x) := by grind
theorem fpow_succ (a : F) (k : Nat) : fpow a (k + 1) = fpow a k * a := rfl
theorem RootInv.start {x s : F} (h : x = s * s) : RootInv x 95 (fpow x (2 ^ 127 - 1) * x) (fpow x (2 ^ 127 - 1) * fpow x (2 ^ 127 - 1) * x) := by
  refine ⟨alg_s rfl, ?_⟩
  by_cases hs : s = 0
  · left
    rw [h, hs]
    decide +kernel
  · right
    rw [← fpow_add, ← fpow_succ, sqn_pow, ← fpow_mul, h, fpow_base, ← fpow_add]
    have : (2 ^ 127 - 1 + (2 ^ 127 - 1) + 1) * 2 ^ 95 + (2 ^ 127 - 1 + (2 ^ 127 - 1) + 1) * 2 ^ 95 = p - 1 := by decide +kernel
    rw [this]
    exact fermat_F hs
theorem RootInv.fin {x r v : F} (h : RootInv x 0 r v) : r * r = x := by
  obtain ⟨h1, h2⟩ := h
  rcases h2 with h2 | h2
  · have : x * v = 0 := by rw [h2]; grind
    rw [h1, this, h2]
  · rw [sqn] at h2
    rw [h1, h2]
    exact mul_one1 x
/-- Two roots of one square. -/
theorem roots {n : Nat} [NeZero n] {iv : Fin n → Fin n} (hinv : ∀ a : Fin n, a ≠ 0 → a * iv a = 1) {a c : Fin n} (h : a * a = c * c) (hn : a ≠ c) : a = 0 - c := by
  have hd : a - c ≠ 0 := fun e => hn (by grind)
  have h1 := hinv _ hd
  clear hn hd
  grind
end Go.FP
