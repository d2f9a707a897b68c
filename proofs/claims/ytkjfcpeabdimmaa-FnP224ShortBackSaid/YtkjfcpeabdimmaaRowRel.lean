/- Rows: the answer is true. -/
import Derived.Test.YtkjfcpeabdimmaaS2AffLaw
set_option linter.unusedVariables false
set_option linter.unusedSimpArgs false
set_option linter.constructorNameAsVariable false
namespace Go.Sx
open Go.Proofs Go.FP Go.EC
def postRow (i o : List Int) : Prop := match o with
  | [r] => r ≠ 0
  | _ => False
/-- ids 91, 92, 93: the row at an input of the classes finite, far, none. -/
def relsW (n : Nat) : RelSpec := if n = 91 then { pre := relFin.pre, post := postRow } else if n = 92 then { pre := relFar.pre, post := postRow } else if n = 93 then { pre := relBad.pre, post := postRow } else relsA n
def canRowW (id : Nat) : Can := { id := id, kinds := ks .u8 84, args := [agg3], hp := [], outs := [.u8], res := .one (.s (.boolv 84)), hpE := [], new := [] }
def tFin : List (FuncId × Con) := (14, canFin.con) :: tabAll
def tFar : List (FuncId × Con) := (14, canFar.con) :: tabAll
def tBad : List (FuncId × Con) := (14, canBad.con) :: tabAll
end Go.Sx
