/- The rounds of p224SqrtCandidate, in three parts. -/
import Derived.Test.YtkjfcpeabdimmaaSqCand
set_option linter.unusedVariables false
set_option linter.unusedSimpArgs false
set_option linter.constructorNameAsVariable false
set_option maxRecDepth 100000
set_option maxHeartbeats 4000000
namespace Go.Sx
open Go.Proofs Go.FP Go.EC
/-- The powers from 95 - i on, at their places. -/
def gsAt (i : Nat) (l : List Int) : List (List Int) := (List.range (95 - i)).map (fun _ => c0) ++ (List.range (i + 1)).map fun j => el4 l (2 + j)
def csR (id i : Nat) : CutS := { id := id, fr := [(0, pt 0), (1, pt 1), (4, pt 2), (6, pt 3), (15, pt 4), (16, pt 5), (17, .one (.s (.int .i64 (.ofNat i))))], hp := [rw_ (vs .u64 4 4), ro (vs .u64 0 4), rw_ (us (4 * (95 - i)) ++ vs .u64 8 (4 * (i + 1))), rw_ (us 4), rw_ (vs .u64 (8 + 4 * (i + 1)) 4), rw_ (vs .u64 (12 + 4 * (i + 1)) 4)], n := 12 + 4 * (i + 1) }
def isAt (i : Int) (st : St) : Bool := match st.fr.get 17 with
  | some (.one (.s (.int .i64 n))) => decide (n = i)
  | _ => false
noncomputable def rest113 : Code := restC 32 body113
noncomputable def head113 : Code := match rest113 with
  | .seq r _ => r
  | c => c
noncomputable def loop113 : Code := match rest113 with
  | .seq _ (.block _ (.loop b)) => b
  | c => c
theorem rest113_eq : restC 32 body113 = .seq head113 (.block 16 (.loop loop113)) := by kernel_rfl
/-- The state at the head, told. -/
def toHead (id i m : Nat) (l : List Int) (r v : List Int) : Prop := callZ id 0 (l.take 4 ++ (r ++ (((gsAt i l).drop (95 - m)).flatten ++ (v ++ el4 l (3 + (i + 1)))))) fun _ => False
theorem c3_cond : LoopCond Try.prog X2 tabC relsQ2 sqStrat Try.f113 canCand (csR 135 32) none 16 loop113 120 = alln 148 fun l => (relsQ2 1135).pre l → roundsP (gsAt 32 l) (el4 l 36) (fun r _ => (relsQ2 131).post (l.take 4) r) 0 32 (el4 l 1) (el4 l 35) := by kernel_rfl
theorem c2_cond : LoopCond Try.prog X2 tabC relsQ2 sqStrat Try.f113 canCand (csR 134 64) (some (csR 135 32, isAt 32)) 16 loop113 120 = alln 276 fun l => (relsQ2 1134).pre l → roundsP (gsAt 64 l) (el4 l 68) (toHead 1135 64 32 l) 32 32 (el4 l 1) (el4 l 67) := by kernel_rfl
theorem c1_cond : HeadCond Try.prog X2 tabC relsQ2 sqStrat Try.f113 canCand csQ (some (csR 134 64, isAt 64)) head113 16 loop113 120 = alln 400 fun l => (relsQ2 1133).pre l → roundsP (gsAt 95 l) (el4 l 99) (toHead 1134 95 64 l) 64 31 (el4 l 1) (el4 l 98) := by kernel_rfl
end Go.Sx
