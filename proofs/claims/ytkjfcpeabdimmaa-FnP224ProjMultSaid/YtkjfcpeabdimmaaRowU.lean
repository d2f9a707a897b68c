/- All contracts, with those of elements that compare and tell. -/
import Derived.Test.YtkjfcpeabdimmaaBaseTri
import Derived.Test.YtkjfcpeabdimmaaPtGet
import Derived.Test.YtkjfcpeabdimmaaPtInv
set_option linter.unusedVariables false
set_option linter.unusedSimpArgs false
set_option linter.constructorNameAsVariable false
set_option maxRecDepth 100000
namespace Go.Sx
open Go.Proofs Go.FP Go.EC
def relsU (n : Nat) : RelSpec := if n = 68 then relGet else relsT n
theorem relsU_T {n : Nat} (h : n ≠ 68) : relsU n = relsT n := by simp [relsU, h]
def tabEl : List (FuncId × Con) := [(99, canEqual.con), (104, canIsZero.con), (105, canInvert.con), (88, canGet.con)]
def tabU : List (FuncId × Con) := tabEl ++ tabT3
theorem tabEl_ok : ∀ f con, (f, con) ∈ tabEl → ConOk Try.prog relsU f con :=
  tabCons (equal_con.lift rfl) (tabCons (isZero_con.lift rfl) (tabCons (inv_con.lift rfl) (tabCons (get_con.lift rfl) (fun f con h => by cases h))))
theorem tabU_ok : ∀ f con, (f, con) ∈ tabU → ConOk Try.prog relsU f con := tabApp tabEl_ok (by
  intro f con hm
  have h0 : (tabT3.all fun x => x.2.id != 68) = true := by decide
  have := List.all_eq_true.1 h0 _ hm
  simp only [bne_iff_ne, ne_eq] at this
  exact (tabT3_ok f con hm).lift (relsU_T this))
def callU (id n : Nat) (i : List Int) (K : List Int → Prop) : Prop := (relsU id).pre i ∧ alln n fun o => (relsU id).post i o → K o
theorem callU_of {id n : Nat} {i : List Int} {K : List Int → Prop} (hp : (relsU id).pre i) (h : ∀ o : List Int, o.length = n → (relsU id).post i o → K o) : callU id n i K := ⟨hp, alln_len n h⟩
def aggsU : Nat → List Nat → List AV
  | _, [] => []
  | b, n :: l => .one (.g (vs .u8 b n)) :: aggsU (b + n) l
def canRow3U : Can := { id := 90, kinds := ks .u8 56, args := [.one (.g (vs .u8 0 28)), .one (.g (vs .u8 28 28))], hp := [], outs := [.u8], res := .one (.s (.boolv 56)), hpE := [], new := [] }
end Go.Sx
