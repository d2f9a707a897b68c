/- Pieces of rows: an element read from bytes, and told as bytes. -/
import Derived.Test.YtkjfcpeabdimmaaS2AffLaw
set_option linter.unusedVariables false
set_option linter.unusedSimpArgs false
set_option linter.constructorNameAsVariable false
set_option maxRecDepth 100000
set_option maxHeartbeats 4000000
namespace Go.Sx
open Go.Proofs Go.FP Go.EC

def c0 : List Int := [0, 0, 0, 0]
def cOne : List Int := [0, 18446744069414584320, 18446744073709551615, 0]
/-- SetBytes of 28 bytes: bad where they are not below the prime. -/
def setVC (b : List Int) (bad : Prop) (K : List Int → Prop) : Prop :=
  callK 10 4 ([0, 0, 0, 0, 18446744069414584320, 18446744073709551615, 0, 0]) fun m => callK 4 4 m fun n => callK 2 28 n fun e => callK 5 1 (b ++ e.reverse) (one1 fun r => ∀ t : Int, t = (if cmpFn .eql r 0 = true then 1 else 0) →
    (t ≠ 0 → bad) ∧ (t = 0 → callK 1 4 b.reverse fun u => callK 3 4 u K))
/-- Bytes of an element. -/
def getVC (e : List Int) (K : List Int → Prop) : Prop := callK 4 4 e fun n => callK 2 28 n fun b => K b.reverse

theorem okMinus : ok64 [0, 0, 0, 0] ∧ ok64 [18446744069414584320, 18446744073709551615, 0, 0] ∧ dec64 [0, 0, 0, 0] = 0 ∧ dec64 [18446744069414584320, 18446744073709551615, 0, 0] = 1 := by
  refine ⟨⟨?_, by decide⟩, ⟨?_, by decide⟩, by decide +kernel, by decide +kernel⟩ <;> (simp only [r64, rng]; decide)
theorem tF_minus : tF (pI - 1) = 0 - 1 := by decide +kernel
theorem valB_nonneg {l : List Int} (h : rng 256 l) : 0 ≤ valB l := rng_nonneg (by decide) (rng_rev h)

theorem set_of {b : List Int} {bad : Prop} {K : List Int → Prop} (hb : rng 256 b) (hl : b.length = 28) (h0 : ¬ valB b < pI → bad) (h1 : valB b < pI → ∀ e : List Int, e.length = 4 → ok64 e → dec64 e = tF (valB b) → K e) : setVC b bad K := by
  refine callK_of ⟨okMinus.1, okMinus.2.1⟩ fun m lm hm => callK_of hm.1 fun n ln hn => callK_of hn.1.2 fun e le he => callK_of trivial fun o lo ho => ?_
  have em : dec64 m = 0 - 1 := by rw [hm.2]; show dec64 [0, 0, 0, 0] - dec64 [18446744069414584320, 18446744073709551615, 0, 0] = _; rw [okMinus.2.2.1, okMinus.2.2.2]
  have en : val64 n = pI - 1 := by
    refine tF_inj (val64_nonneg hn.1.1) hn.1.2 (by decide) (by decide) ?_
    rw [hn.2, em, tF_minus]
  have ee : valB e.reverse = pI - 1 := by
    unfold valB
    rw [List.reverse_reverse, he.2, en]
  match o, lo with
  | [r], _ =>
    have ho' : (valB ((b ++ e.reverse).take 28) ≤ valB ((b ++ e.reverse).drop 28) → r = 1) ∧ (¬ valB ((b ++ e.reverse).take 28) ≤ valB ((b ++ e.reverse).drop 28) → r = 0) := ho
    rw [take_app hl, drop_app hl, ee] at ho'
    intro t et
    have ht := cmp_ite et
    refine ⟨fun h => h0 fun k => ?_, fun h => ?_⟩
    · have := ho'.1 (by omega)
      rw [this] at ht
      exact absurd (ht.1 h) (by decide)
    · have hlt : valB b < pI := by
        apply Classical.byContradiction
        intro k
        have := ho'.2 (by omega)
        rw [this] at ht
        exact ht.2 (by decide) h
      refine callK_of trivial fun u lu hu => ?_
      have eu : val64 u = valB b := hu.2
      refine callK_of (by show val64 u < pI; rw [eu]; exact hlt) fun e' le' he' => h1 hlt e' le' he'.1 ?_
      rw [he'.2, eu]

theorem get_of {e : List Int} {K : List Int → Prop} (he : ok64 e) (h : ∀ b : List Int, b.length = 28 → rng 256 b → valB b < pI → tF (valB b) = dec64 e → K b) : getVC e K := by
  refine callK_of he fun n ln hn => callK_of hn.1.2 fun b lb hb => ?_
  have eb : valB b.reverse = val64 n := by
    unfold valB
    rw [List.reverse_reverse]
    exact hb.2
  exact h _ (by simpa using lb) (rng_rev hb.1) (by rw [eb]; exact hn.1.2) (by rw [eb]; exact hn.2)
/-- What is told is what was read. -/
theorem bytes_eq {b c : List Int} (hb : rng 256 b) (hc : rng 256 c) (hl : b.length = c.length) (vb : valB b < pI) (vc : valB c < pI) (e : tF (valB b) = tF (valB c)) : b = c := by
  have h1 := tF_inj (valB_nonneg hb) vb (valB_nonneg hc) vc e
  have h2 := valL_inj (b := 256) (by decide) (rng_rev hb) (rng_rev hc) (by simpa using hl) h1
  exact List.reverse_inj.1 h2
end Go.Sx
