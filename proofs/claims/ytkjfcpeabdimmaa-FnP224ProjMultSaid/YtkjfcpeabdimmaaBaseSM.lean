/- ScalarMult: its conditions. -/
import Derived.Test.YtkjfcpeabdimmaaBaseTb
import Derived.Test.YtkjfcpeabdimmaaBaseSeg
import Derived.Test.YtkjfcpeabdimmaaBaseMath
set_option linter.unusedVariables false
set_option linter.unusedSimpArgs false
set_option linter.constructorNameAsVariable false
set_option maxRecDepth 100000
set_option maxHeartbeats 4000000
namespace Go.Sx
open Go.Proofs Go.FP Go.EC
def smPre (l : List Int) : Prop := rng 256 (l.drop 12) ∧ ok3 l 0 ∧ ∃ P, Rep bF (tri3 l 0) P
def relSM : RelSpec := { pre := smPre, post := fun l o => ok3 o 0 ∧ ∀ P, Rep bF (tri3 l 0) P → Rep bF (tri3 o 0) (nmul iv P (valB (l.drop 12)).toNat) }
def relSMStart : RelSpec := { pre := smPre, post := fun _ _ => False }
def PtR (s : List Int) (P : Pt p) : Prop := s.length = 12 ∧ ok3 s 0 ∧ Rep bF (tri3 s 0) P
/-- The table's first entries are the multiples. -/
def TabR (P : Pt p) (T : List (List Int)) : Prop := ∀ j, j < T.length → PtR (nth [] T j) (nmul iv P (j + 1))
/-- At the loop's head: the 40 inputs, the sum so far, the table. -/
def accOf (l : List Int) : List Int := (l.drop 40).take 12
def tabOf (l : List Int) : List (List Int) := (List.range 15).map fun k => (l.drop (52 + 12 * k)).take 12
def relSMid (i : Nat) : RelSpec := { pre := fun l => smPre (l.take 40) ∧ ∀ P, Rep bF (tri3 (l.take 40) 0) P → TabR P (tabOf l) ∧ PtR (accOf l) (nmul iv P (valB (((l.take 40).drop 12).take i)).toNat), post := fun _ _ => False }
/-- 152: so many times a point; 1153: where its table begins; 1154: the loop; 1155, 1156, 1157: its head at the bytes 7, 14, 21. -/
def relsSm (n : Nat) : RelSpec := if n = 152 then relSM else if n = 1153 then relSMStart else if n = 1154 then relSMid 0 else if n = 1155 then relSMid 7 else if n = 1156 then relSMid 14 else if n = 1157 then relSMid 21 else relsTb n
theorem tabS_Tb {t : List (FuncId × Con)} (h0 : (t.all fun x => x.2.id != 152 && x.2.id != 1153 && x.2.id != 1154 && x.2.id != 1155 && x.2.id != 1156 && x.2.id != 1157) = true) (h : ∀ f con, (f, con) ∈ t → ConOk Try.prog relsTb f con) : ∀ f con, (f, con) ∈ t → ConOk Try.prog relsSm f con := by
  intro f con hm
  have := List.all_eq_true.1 h0 _ hm
  simp only [Bool.and_eq_true, bne_iff_ne, ne_eq] at this
  exact (h f con hm).lift (by simp [relsSm, this])
def canSM : Can := { id := 152, kinds := ks .u64 12 ++ ks .u8 28, args := [pt 0, pt 4, .one (.s (.sliceU 8 0 28))], hp := [sp 1, rw_ (us 4), rw_ (us 4), rw_ (us 4), sp 5, ro (vs .u64 0 4), ro (vs .u64 4 4), ro (vs .u64 8 4), ro (vs .u8 12 28)], outs := ks .u64 12, res := .tup [.s (.ptr 0 0), .s .nilIface], hpE := [(sp 1).cs, vs .u64 40 4, vs .u64 44 4, vs .u64 48 4, (sp 5).cs, vs .u64 0 4, vs .u64 4 4, vs .u64 8 4, vs .u8 12 28], new := [] }
def csT : CutS := { id := 153, fr := [(0, pt 0), (1, pt 4), (2, .one (.s (.sliceU 8 0 28))), (8, pt 9)], hp := [sp 1, rw_ (us 4), rw_ (us 4), rw_ (us 4), sp 5, ro (vs .u64 0 4), ro (vs .u64 4 4), ro (vs .u64 8 4), ro (vs .u8 12 28), ro (tabPtrs 9)] ++ ((List.range 15).map fun k => [sp (11 + 4 * k), rw_ (us 4), rw_ (us 4), rw_ (us 4)]).flatten, n := 0 }
noncomputable def body55 : Code := match Try.f55.body with
  | some c => c
  | none => .skip
def callS (id n : Nat) (i : List Int) (K : List Int → Prop) : Prop := (relsSm id).pre i ∧ alln n fun o => (relsSm id).post i o → K o
def opS (op : BinOp) (k : IntKind) (x y : Int) (K : Int → Prop) : Prop := ∀ r : Int, r = binFn op k x y → K r
/-- The table: every second entry is a double, the next one a sum. -/
def tblVC (q : List Int) (K : List (List Int) → Prop) : Nat → List (List Int) → Prop
  | 0, T => K T
  | n + 1, T => callS 64 12 (nth [] T (T.length / 2)) fun d => callS 63 12 (d ++ q) fun s => tblVC q K n (T ++ [d, s])
def dbl4 (s : List Int) (K : List Int → Prop) : Prop := callS 64 12 s fun a => callS 64 12 a fun b => callS 64 12 b fun c => callS 64 12 c K
def winVC (T : List (List Int)) (w : Int) (s : List Int) (K : List Int → Prop) : Prop := callS 151 12 (w :: T.flatten) fun t => callS 63 12 (s ++ t) K
def byteVC (T : List (List Int)) (b : Int) (s : List Int) (K : List Int → Prop) : Prop :=
  opS .shr .u8 b 4 fun w => winVC T w s fun s => dbl4 s fun s => opS .and .u8 b 15 fun w => winVC T w s K
def smVC (T : List (List Int)) (l : List Int) (K : List Int → Prop) : Nat → Nat → List Int → Prop
  | 0, _, s => K s
  | n + 1, i, s => dbl4 s fun s => byteVC T (nth 0 l (12 + i)) s fun s => smVC T l K n (i + 1) s
/-- The state at the loop. -/
def csU (id : Nat) (fr : List (Nat × AV)) : CutS := { id := id, fr := [(0, pt 0), (2, .one (.s (.sliceU 8 0 28))), (8, pt 9), (10, pt 70)] ++ fr, hp := [sp 1, rw_ (vs .u64 40 4), rw_ (vs .u64 44 4), rw_ (vs .u64 48 4), sp 5, ro (vs .u64 0 4), ro (vs .u64 4 4), ro (vs .u64 8 4), ro (vs .u8 12 28), ro (tabPtrs 9)] ++ ((List.range 15).map fun k => tabReg 9 k 52).flatten ++ [sp 71, rw_ (us 4), rw_ (us 4), rw_ (us 4)], n := 192 }
def csP (id i : Nat) : CutS := csU id [(59, .one (.s (.sliceU 8 0 28))), (60, .one (.s (.int .i64 28))), (61, .one (.s (.int .i64 (.ofNat i))))]
def isAt61 (i : Int) (st : St) : Bool := match st.fr.get 61 with
  | some (.one (.s (.int .i64 k))) => k == i
  | _ => false
noncomputable def rest55 : Code := restC 6 body55
noncomputable def tail55 : Code := match rest55 with
  | .seq _ t => t
  | _ => .skip
noncomputable def head55 : Code := match rest55 with
  | .seq (.seq r _) _ => r
  | _ => .skip
noncomputable def loop55 : Code := match rest55 with
  | .seq (.seq _ (.block _ (.loop b))) _ => b
  | _ => .skip
theorem rest55_eq : restC 6 body55 = .seq (.seq head55 (.block 2 (.loop loop55))) tail55 := by kernel_rfl
def toS (id : Nat) (l s : List Int) : Prop := callS id 0 (l.take 40 ++ (s ++ l.drop 52)) fun _ => False
def tabSM : List (FuncId × Con) := [(48, canPAdd.con), (48, canPAddI.con), (54, canPDbl.con), (54, canPDblI.con), (82, canTab.con)]
end Go.Sx

/- ScalarMult: its conditions, in parts. -/
set_option maxRecDepth 100000
set_option maxHeartbeats 4000000
namespace Go.Sx
open Go.Proofs Go.FP Go.EC
def noL (_ : Code) (_ : St) : Option LoopS := none
theorem sm1_cond : Can.condS canSM Try.prog X2 [] relsSm (fun _ _ => none) csT 2 55 9 = alln 40 fun l => fitsC canSM.kinds l ((relsSm 152).pre l → callS 1153 0 l fun _ => False) := by kernel_rfl
theorem sm2_cond : MidCond Try.prog X2 tabSM relsSm noL Try.f55 canSM csT (csU 154 []) 4 (restC 2 body55) 20 = alln 40 fun l => (relsSm 1153).pre l → tblVC (l.take 12) (fun T => callS 1154 0 (l ++ (far12 ++ T.flatten)) fun _ => False) 7 [l.take 12] := by kernel_rfl
end Go.Sx
