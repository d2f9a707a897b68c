/- Rows over slices of bytes that compare. -/
import Derived.Test.YtkjfcpeabdimmaaPtSame
set_option linter.unusedVariables false
set_option linter.unusedSimpArgs false
set_option linter.constructorNameAsVariable false
namespace Go.Sx
open Go.Proofs Go.FP Go.EC
/-- 100: the comparison of bytes. -/
def relsR3 (n : Nat) : RelSpec := if n = 100 then relSameN else relsR2 n
def tabR3 : List (FuncId × Con) := (34, conSame) :: tabD
theorem tabR3_ok : ∀ f con, (f, con) ∈ tabR3 → ConOk Try.prog relsR3 f con := tabCons (alike_con rfl) (by
  intro f con hm
  have h0 : (tabD.all fun x => x.2.id != 100) = true := by decide
  have := List.all_eq_true.1 h0 _ hm
  simp only [bne_iff_ne, ne_eq] at this
  exact (tabR2_ok f con hm).lift (by simp [relsR3, this]))
def callR3 (id n : Nat) (i : List Int) (K : List Int → Prop) : Prop := (relsR3 id).pre i ∧ alln n fun o => (relsR3 id).post i o → K o
theorem callR3_of {id n : Nat} {i : List Int} {K : List Int → Prop} (hp : (relsR3 id).pre i) (h : ∀ o : List Int, o.length = n → (relsR3 id).post i o → K o) : callR3 id n i K := ⟨hp, alln_len n h⟩
/-- Are the bytes the same? -/
def alikeK (a b : List Int) (K : Int → Prop) : Prop := callR3 100 1 (a ++ b) (one1 K)
theorem alikeK_of {a b : List Int} {K : Int → Prop} (hl : a.length = b.length) (h1 : a = b → K 1) (h0 : a ≠ b → K 0) : alikeK a b K := by
  refine callR3_of trivial fun o lo ho => ?_
  have ho' : isB o ((a ++ b).take ((a ++ b).length / 2) = (a ++ b).drop ((a ++ b).length / 2)) := ho
  have e : (a ++ b).length / 2 = a.length := by simp; omega
  rw [e, take_app rfl, drop_app rfl] at ho'
  match o, lo with
  | [r], _ =>
    by_cases h : a = b
    · have e1 : r = 1 := ho'.1 h
      subst e1
      exact h1 h
    · have e0 : r = 0 := ho'.2 h
      subst e0
      exact h0 h
def slCond3 (id : Nat) (cls : List (Option Nat)) (V : (List Int → Prop) → List Int → Prop) : Prop :=
  alln (slKinds cls).length fun l => fitsC (slKinds cls) l ((relsR3 id).pre l → V (fun o => (relsR3 id).post l o) l)
theorem slCond3_of {id : Nat} {cls : List (Option Nat)} {V : (List Int → Prop) → List Int → Prop} (h : ∀ l : List Int, l.length = (slKinds cls).length → (relsR3 id).pre l → V (fun o => (relsR3 id).post l o) l) : slCond3 id cls V :=
  alln_len _ fun l hl => fitsC_intro _ _ fun hp => h l hl hp
theorem ok90' {l : List Int} : (fun o => (relsR3 90).post l o) [1] := (by decide : (1 : Int) ≠ 0)
theorem ok91' {l : List Int} : (fun o => (relsR3 91).post l o) [1] := (by decide : (1 : Int) ≠ 0)
theorem ok92' {l : List Int} : (fun o => (relsR3 92).post l o) [1] := (by decide : (1 : Int) ≠ 0)
end Go.Sx
