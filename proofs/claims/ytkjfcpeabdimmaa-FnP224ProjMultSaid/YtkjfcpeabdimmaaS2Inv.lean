/- The reference's inverse: the power of p - 2. -/
import Derived.Test.YtkjfcpeabdimmaaS2Mul
import Derived.Test.YtkjfcpeabdimmaaBaseSound
set_option linter.unusedVariables false
set_option linter.unusedSimpArgs false
set_option linter.constructorNameAsVariable false
set_option maxRecDepth 100000
set_option maxHeartbeats 4000000
namespace Go.Sx
open Go.Proofs Go.FP Go.EC

def callT (i : List Int) (K : List Int → Prop) : Prop := (relsF 23).pre i ∧ alln 7 fun o => (relsF 23).post i o → K o
def powVC (Q : List Int → Prop) (a : List Int) : List Bool → List Int → Prop
  | [], out => Q out
  | b :: l, out => callT (out ++ out) fun o => match b with
    | true => callT (o ++ a) fun o' => powVC Q a l o'
    | false => powVC Q a l o
theorem callT_of {a b : List Int} {K : List Int → Prop} (ha : ok32 a) (hb : ok32 b) (hla : a.length = 7) (h : ∀ o : List Int, o.length = 7 → ok32 o → dec32 o = dec32 a * dec32 b → K o) : callT (a ++ b) K := by
  have e1 : (a ++ b).take 7 = a := by rw [List.take_append_of_le_length (by omega), List.take_of_length_le (by omega)]
  have e2 : (a ++ b).drop 7 = b := by rw [List.drop_append_of_le_length (by omega), List.drop_of_length_le (by omega)]; rfl
  refine ⟨⟨by rw [e1]; exact ha, by rw [e2]; exact hb⟩, ?_⟩
  intro x0 x1 x2 x3 x4 x5 x6 hp
  refine h _ rfl hp.1 ?_
  have h2 := hp.2
  rw [e1, e2] at h2
  exact h2
theorem powVC_of {Q : List Int → Prop} {a : List Int} (ha : ok32 a) (hla : a.length = 7) : ∀ (l : List Bool) (out : List Int) (k : Nat), ok32 out → out.length = 7 → dec32 out = fpow (dec32 a) k →
    (∀ o : List Int, ok32 o → dec32 o = fpow (dec32 a) (nm l k) → Q o) → powVC Q a l out
  | [], out, k, ho, hl, hd, hQ => hQ out ho hd
  | b :: l, out, k, ho, hl, hd, hQ => by
    refine callT_of ho ho hl fun o hlo hoo hdo => ?_
    have h2 : dec32 o = fpow (dec32 a) (2 * k) := by rw [hdo, hd, ← fpow_add, Nat.two_mul]
    cases b with
    | true =>
      refine callT_of hoo ha hlo fun o' hlo' hoo' hdo' => ?_
      exact powVC_of ha hla l o' (2 * k + 1) hoo' hlo' (by rw [hdo', h2, fpow]) (by simpa [nm] using hQ)
    | false => exact powVC_of ha hla l o (2 * k) hoo hlo h2 (by simpa [nm] using hQ)
def tabT : List (FuncId × Con) := [(24, canTimes.con)]
theorem tabT_ok : ∀ f con, (f, con) ∈ tabT → ConOk Try.prog relsF f con := tab_cons times_con tab_nil
theorem inverse_cond : Can.condT canInverse Try.prog X2 tabT relsF 42 4 = inp 7 0 0 (fun l => rngs (-9223372036854775808) 9223372036854775807 l ((relsF 29).pre l → powVC (fun o => (relsF 29).post l o) l (bitsOf 26959946667150639794667015087019630673557916260026308143510066298879 224) [1, 0, 0, 0, 0, 0, 0])) := by kernel_rfl
theorem inverse_con : ConOk Try.prog relsF 42 canInverse.con := con_of_can (can_of_condT hX2 hm2 (tab := tabT) tabT_ok 4 (by decide) (by
  rw [inverse_cond]
  refine inp_of _ _ _ _ fun l hl => rngs_of _ _ fun _ hp => powVC_of hp hl _ _ 0 ⟨⟨by decide, by decide, by decide, by decide, by decide, by decide, by decide, by decide, by decide, by decide, by decide, by decide, by decide, by decide, trivial⟩, by decide⟩ rfl ?_ fun o ho hd => ⟨ho, ?_⟩
  · show tF (val32 [1, 0, 0, 0, 0, 0, 0]) = 1
    decide +kernel
  · rw [hd]
    have : nm (bitsOf 26959946667150639794667015087019630673557916260026308143510066298879 224) 0 = p - 2 := by decide +kernel
    rw [this]
    rfl))
end Go.Sx
