/- The contracts of the limb functions and of the reference, as one table. -/
import Derived.Test.YtkjfcpeabdimmaaR2Mul
import Derived.Test.YtkjfcpeabdimmaaR2Sqr
import Derived.Test.YtkjfcpeabdimmaaR2ToM
import Derived.Test.YtkjfcpeabdimmaaR2FromM
import Derived.Test.YtkjfcpeabdimmaaR2Add
import Derived.Test.YtkjfcpeabdimmaaR2Sub
import Derived.Test.YtkjfcpeabdimmaaR2ToBytes
import Derived.Test.YtkjfcpeabdimmaaR2FromBytes
import Derived.Test.YtkjfcpeabdimmaaS2Inv
import Derived.Test.YtkjfcpeabdimmaaBaseSound
set_option linter.unusedVariables false
set_option linter.unusedSimpArgs false
set_option linter.constructorNameAsVariable false
namespace Go.Sx
open Go.Proofs
def tabImpl : List (FuncId × Con) := [(96, canFromBytes.con), (115, canToBytes.con), (97, canToM.con), (114, canFromM.con), (94, canLeq.con), (112, canCt.con),
  (90, (bin4 6).con), (90, (bin4a 6).con), (90, (bin4b 6).con), (90, (bin4s 7).con), (101, (un4 7).con), (101, (un4i 7).con),
  (91, (bin4 8).con), (91, (bin4a 8).con), (91, (bin4b 8).con), (91, (bin4s 9).con), (92, (bin4 10).con), (92, (bin4a 10).con), (92, (bin4b 11).con)]
theorem tabImpl_ok : ∀ f con, (f, con) ∈ tabImpl → ConOk Try.prog relsF f con :=
  tab_cons fromBytes_ok (tab_cons toBytes_ok (tab_cons tom_ok (tab_cons fromm_ok (tab_cons leq_con (tab_cons ct_con (tab_cons mul_ok (tab_cons mulA_ok (tab_cons mulB_ok (tab_cons mulS_ok (tab_cons sqr_con (tab_cons sqrI_con
    (tab_cons add_con (tab_cons addA_con (tab_cons addB_con (tab_cons addS_con (tab_cons sub_con (tab_cons subA_con (tab_cons subB_con tab_nil))))))))))))))))))
def tabSpec : List (FuncId × Con) := [(18, canNumber.con), (21, canBelow.con), (19, canSame.con), (24, canTimes.con), (50, canPlus.con), (49, canMinus.con), (42, canInverse.con), (23, canBytes.con)]
theorem tabSpec_ok : ∀ f con, (f, con) ∈ tabSpec → ConOk Try.prog relsF f con :=
  tab_cons number_con (tab_cons below_con (tab_cons same_con (tab_cons times_con (tab_cons plus_con (tab_cons minus_con (tab_cons inverse_con (tab_cons bytes_con tab_nil)))))))
def tabAll : List (FuncId × Con) := tabImpl ++ tabSpec
theorem tabAll_ok : ∀ f con, (f, con) ∈ tabAll → ConOk Try.prog relsF f con := tab_app tabImpl_ok tabSpec_ok
def canRow1 : Can := { id := 99, kinds := ks .u8 84, args := [.one (.g (vs .u8 0 84))], hp := [], outs := [], res := .one (.s (.bool true)), hpE := [], new := [] }
end Go.Sx

/- Rows: any input, the answer true. -/
namespace Go.Sx
open Go.Proofs
def relTrue : RelSpec := { pre := fun _ => True, post := fun _ _ => True }
def relsR (n : Nat) : RelSpec := if n = 99 then relTrue else relsF n
theorem tab_lift : ∀ {t : List (FuncId × Con)}, (∀ f con, (f, con) ∈ t → ConOk Try.prog relsF f con) → (t.all fun x => x.2.id != 99) = true → ∀ f con, (f, con) ∈ t → ConOk Try.prog relsR f con := by
  intro t ht hn f con hm
  refine (ht f con hm).lift ?_
  have := List.all_eq_true.1 hn _ hm
  simp only [bne_iff_ne, ne_eq] at this
  simp only [relsR, this, if_false]
theorem tabAllR : ∀ f con, (f, con) ∈ tabAll → ConOk Try.prog relsR f con := tab_lift tabAll_ok (by decide)
end Go.Sx
