/- The reference's multiple of a point. -/
import Derived.Test.YtkjfcpeabdimmaaPtJac
import Derived.Test.YtkjfcpeabdimmaaPtIO
import Derived.Test.YtkjfcpeabdimmaaBaseSeg
set_option linter.unusedVariables false
set_option linter.unusedSimpArgs false
set_option linter.constructorNameAsVariable false
set_option maxRecDepth 100000
set_option maxHeartbeats 4000000
namespace Go.Sx
open Go.Proofs Go.FP Go.EC
/-- The point of the inputs: 28 bytes, two coordinates, two capacities. -/
def mP (l : List Int) : Pt p := some (dec32 ((l.drop 28).take 7), dec32 ((l.drop 35).take 7))
def mOk (l : List Int) : Prop := rng 256 (l.take 28) ∧ ok32 ((l.drop 28).take 7) ∧ ok32 ((l.drop 35).take 7) ∧ onC (dec32 ((l.drop 28).take 7)) (dec32 ((l.drop 35).take 7))
/-- How often, before the bit i of the byte idx. -/
def mCount (l : List Int) (idx : Nat) (i : Int) : Nat := (valB (l.take idx)).toNat * 2 ^ (7 - i).toNat + (nth 0 l idx).toNat / 2 ^ (i + 1).toNat
def multInv (idx : Nat) (l : List Int) : Prop := mOk l ∧ -1 ≤ nth 0 l 44 ∧ nth 0 l 44 ≤ 7 ∧ okJ (l.drop 45) 0 ∧ repJ (l.drop 45) 0 (nmul iv (mP l) (mCount l idx (nth 0 l 44)))
def multMu (l : List Int) : Nat := (nth 0 l 44 + 1).toNat
def relMInv (idx : Nat) : RelSpec := { pre := multInv idx, post := fun i o => multInv idx (i.take 44 ++ o) }
def relMNext (idx : Nat) : RelSpec := { pre := fun l => multInv idx (l.take 44 ++ l.drop 69) ∧ multMu (l.take 44 ++ l.drop 69) < multMu (l.take 44 ++ (l.drop 44).take 25), post := fun _ _ => False }
def mTot (l : List Int) : Pt p := nmul iv (mP l) (valB (l.take 28)).toNat
def relMFar : RelSpec := { pre := fun l => mOk l ∧ mTot l = none, post := fun _ _ => True }
def relMFin : RelSpec := { pre := fun l => mOk l ∧ mTot l ≠ none, post := fun l o => ok32 (w7 o 0) ∧ ok32 (w7 o 1) ∧ mTot l = some (dec32 (w7 o 0), dec32 (w7 o 1)) }
def relMAsk : RelSpec := { pre := fun _ => True, post := fun i o => isB o (mTot i = none) }
def relMStart (q : Pt p → Prop) : RelSpec := { pre := fun l => mOk (l.take 44) ∧ q (mTot (l.take 44)) ∧ okJ (l.drop 44) 0 ∧ repJ (l.drop 44) 0 none, post := fun _ _ => False }
/-- 145, 147: the multiple (not far, far), 146: is it far; 1148, 1149: where it starts; 200.., 1200..: the loop over the bits of each byte. -/
def relsM (n : Nat) : RelSpec := if 200 ≤ n ∧ n < 228 then relMInv (n - 200) else if 1200 ≤ n ∧ n < 1228 then relMNext (n - 1200) else if n = 145 then relMFin else if n = 146 then relMAsk else if n = 147 then relMFar else if n = 1148 then relMStart (fun S => S ≠ none) else if n = 1149 then relMStart (fun S => S = none) else relsJ n
theorem cutM (idx : Nat) (h : idx < 28) : CutOk relsM 44 25 (200 + idx) := by
  have e1 : relsM (200 + idx) = relMInv idx := by
    unfold relsM
    rw [if_pos (by omega), Nat.add_sub_cancel_left]
  have e2 : relsM (200 + idx + 1000) = relMNext idx := by
    unfold relsM
    rw [if_neg (by omega), if_pos (by omega)]
    congr 1
    omega
  rw [CutOk, e1, e2]
  refine ⟨multMu, fun a i o ha hi ho h => ?_, fun a h i ha hh hi hp => ?_⟩
  · show multInv idx ((a ++ i).take 44 ++ o)
    rw [take_app ha]
    exact h
  · obtain ⟨h1, h2⟩ : multInv idx ((a ++ (h ++ i)).take 44 ++ (a ++ (h ++ i)).drop 69) ∧ multMu ((a ++ (h ++ i)).take 44 ++ (a ++ (h ++ i)).drop 69) < multMu ((a ++ (h ++ i)).take 44 ++ ((a ++ (h ++ i)).drop 44).take 25) := hp
    have e1 : (a ++ (h ++ i)).take 44 = a := take_app ha
    have e2 : (a ++ (h ++ i)).drop 44 = h ++ i := drop_app ha
    have e3 : (a ++ (h ++ i)).drop 69 = i := by rw [show (69 : Nat) = 44 + 25 from rfl, ← List.drop_drop, e2, drop_app hh]
    rw [e1, e3] at h1
    rw [e1, e2, e3, take_app hh] at h2
    exact ⟨h1, h2⟩
theorem tabM_J : ∀ f con, (f, con) ∈ tabJac ++ tabSpec → ConOk Try.prog relsM f con := by
  intro f con hm
  have h0 : ((tabJac ++ tabSpec).all fun x => decide (x.2.id < 145)) = true := by decide
  have := List.all_eq_true.1 h0 _ hm
  simp only [decide_eq_true_eq] at this
  refine (tabApp tabJac_ok tabJ_F f con hm).lift ?_
  unfold relsM
  rw [if_neg (by omega), if_neg (by omega), if_neg (by omega), if_neg (by omega), if_neg (by omega), if_neg (by omega), if_neg (by omega)]
def fId : Code → Nat
  | .seq a _ => fId a
  | .region id _ _ => id
  | .block _ b => fId b
  | _ => 0
def mStrat (_ : Code) (st : St) : Option CutS := match st.fr.get 25 with
  | some (.one (.s (.int .i64 (.ofNat idx)))) => if idx < 28 then some { id := 200 + idx, n := 25, fr := [(3, pt 4), (5, pt 5), (6, pt 6), (7, pt 7), (9, v1 .u8 idx), (10, v1 .i64 44), (23, .one (.s (.sliceU 1 0 28))), (24, .one (.s (.int .i64 28))), (25, .one (.s (.int .i64 (.ofNat idx))))], hp := [ro fold4, ro (vs .u8 0 28), ro (vs .i64 28 7), ro (vs .i64 35 7), rw_ [.int .i64 224, .int .i64 28, .int .i64 7, .slice 0 0 2 2], rw_ [.bool false, .sliceC 2 0 7 42, .sliceC 3 0 7 43], rw_ [.bool false, .nils, .nils], rw_ [.sliceC 8 0 7 66, .sliceC 9 0 7 67, .sliceC 10 0 7 68], ro (vs .i64 45 7), ro (vs .i64 52 7), ro (vs .i64 59 7)] } else none
  | _ => none
theorem mStrat_ok : ∀ c st cs, mStrat c st = some cs → CutOk relsM 44 cs.n cs.id := by
  intro c st cs h
  unfold mStrat at h
  split at h
  · split at h
    · rename_i hlt
      obtain rfl := Option.some.inj h
      exact cutM _ hlt
    · cases h
  · cases h
def mKinds : List IntKind := ks .u8 28 ++ (ks .i64 14 ++ ks .i64 2)
def canMult (id : Nat) (outs : List IntKind) (res : AV) (new : List (List Sc)) : Can := { id := id, kinds := mKinds, args := [crv, .one (.s (.sliceU 1 0 28)), .one (.g [.bool false, .sliceC 2 0 7 42, .sliceC 3 0 7 43])], hp := [ro fold4, ro (vs .u8 0 28), ro (vs .i64 28 7), ro (vs .i64 35 7)], outs := outs, res := res, hpE := [fold4, vs .u8 0 28, vs .i64 28 7, vs .i64 35 7], new := new }
def canMultFar : Can := canMult 147 [] (.one (.g [.bool true, .nils, .nils])) []
def canMultFin : Can := canMult 145 (ks .i64 14) (.one (.g [.bool false, .slice 4 0 7 14, .slice 5 0 7 14])) [vs .i64 44 7, vs .i64 51 7]
def callM (id n : Nat) (i : List Int) (K : List Int → Prop) : Prop := (relsM id).pre i ∧ alln n fun o => (relsM id).post i o → K o
theorem callM_of {id n : Nat} {i : List Int} {K : List Int → Prop} (hp : (relsM id).pre i) (h : ∀ o : List Int, o.length = n → (relsM id).post i o → K o) : callM id n i K := ⟨hp, alln_len n h⟩
def geK (x n : Int) (A B : Prop) : Prop := ∀ r : Int, r = (if cmpFn .geq x n = true then 1 else 0) → (r ≠ 0 → A) ∧ (r = 0 → B)
theorem geK_of {x n : Int} {A B : Prop} (h1 : n ≤ x → A) (h0 : ¬ n ≤ x → B) : geK x n A B := by
  intro r er
  have hr := cmp_ite er
  refine ⟨fun h => h1 ?_, fun h => h0 fun e => ?_⟩
  · have := hr.1 h
    simpa [cmpFn] using this
  · exact hr.2 (by simpa [cmpFn] using e) h
def opR (op : BinOp) (k : IntKind) (x y : Int) (K : Int → Prop) : Prop := ∀ r : Int, r = binFn op k x y → K r
theorem opR_of {op : BinOp} {k : IntKind} {x y : Int} {K : Int → Prop} (h : K (binFn op k x y)) : opR op k x y K := fun r e => e ▸ h
def shiftK (b i : Int) (K : Int → Prop) : Prop := binPre .shr i ∧ ∀ r : Int, r = binFn .shr .u8 b i → K r
/-- The bits of one byte: x, y, z and the capacities in s. -/
def bitsVC (l : List Int) (idx : Nat) (s : List Int) (K : List Int → Prop) : Prop :=
  callM (200 + idx) 25 (l ++ (7 :: s)) fun h => geK (nth 0 h 0) 0
    (callM 141 21 (h.drop 1) fun t => shiftK (nth 0 l idx) (nth 0 h 0) fun u => opR .and .u8 u 1 fun v => byteK v 1
      (callM 144 1 (t ++ ((l.drop 28).take 14 ++ ([7, 7, 14] ++ l.drop 42))) (one1 fun q =>
        (q ≠ 0 → callM 143 0 (t ++ ((l.drop 28).take 14 ++ ([7, 7, 14] ++ l.drop 42))) fun _ => opR .sub .i64 (nth 0 h 0) 1 fun i' => callM (1200 + idx) 0 (l ++ (h ++ (i' :: ((l.drop 28).take 14 ++ (wN 1 ++ (l.drop 42 ++ [7])))))) fun _ => False) ∧
        (q = 0 → callM 142 21 (t ++ ((l.drop 28).take 14 ++ ([7, 7, 14] ++ l.drop 42))) fun t' => opR .sub .i64 (nth 0 h 0) 1 fun i' => callM (1200 + idx) 0 (l ++ (h ++ (i' :: (t' ++ [7, 7, 14])))) fun _ => False)))
      (opR .sub .i64 (nth 0 h 0) 1 fun i' => callM (1200 + idx) 0 (l ++ (h ++ (i' :: (t ++ [7, 7, 14])))) fun _ => False))
    (K (h.drop 1))
def bytesVC (l : List Int) (K : List Int → Prop) : Nat → Nat → List Int → Prop
  | 0, _, s => K s
  | n + 1, idx, s => bitsVC l idx s fun s' => bytesVC l K n (idx + 1) s'
def backVC (A : Prop) (Q : List Int → Prop) (s : List Int) : Prop :=
  callK 22 1 (w7 s 2 ++ wO) (one1 fun q => ifK q A (callK 29 7 (w7 s 2) fun b => callK 23 7 (b ++ b) fun c => callK 23 7 (w7 s 0 ++ c) fun x => callK 23 7 (c ++ b) fun d => callK 23 7 (w7 s 1 ++ d) fun y => Q (x ++ y)))
def csM (id : Nat) : CutS := { id := id, fr := [(1, .one (.s (.sliceU 1 0 28))), (3, pt 4), (5, pt 5), (6, pt 6), (7, pt 7)], hp := [ro fold4, ro (vs .u8 0 28), ro (vs .i64 28 7), ro (vs .i64 35 7), rw_ [.int .i64 224, .int .i64 28, .int .i64 7, .slice 0 0 2 2], rw_ [.bool false, .sliceC 2 0 7 42, .sliceC 3 0 7 43], rw_ [.bool false, .nils, .nils], rw_ [.sliceC 8 0 7 65, .sliceC 9 0 7 66, .sliceC 10 0 7 67], ro (vs .i64 44 7), ro (vs .i64 51 7), ro (vs .i64 58 7)], n := 24 }
def s0 : List Int := wN 1 ++ (wN 1 ++ (wN 0 ++ [7, 7, 7]))
def stop1 (id : Nat) (l : List Int) : Prop := callM id 0 (l ++ s0) fun _ => False
def stop4 (id : Nat) (l : List Int) : Prop := stop1 id l ∧ (stop1 id l ∧ (stop1 id l ∧ stop1 id l))
noncomputable def body31 : Code := match Try.f31.body with
  | some c => c
  | none => .skip
def tabMu : List (FuncId × Con) := tabJac ++ tabSpec
theorem fin1_cond : Can.condS canMultFin Try.prog X2 tabMu relsM (fun _ _ => none) (csM 148) 3 31 9 = alln 44 fun l => fitsC mKinds l ((relsM 145).pre l → stop4 1148 l) := by kernel_rfl
theorem far1_cond : Can.condS canMultFar Try.prog X2 tabMu relsM (fun _ _ => none) (csM 149) 3 31 9 = alln 44 fun l => fitsC mKinds l ((relsM 147).pre l → stop4 1149 l) := by kernel_rfl
theorem fin2_cond : RestCond Try.prog X2 tabMu relsM (fun c => fId c == 8) mStrat Try.f31 canMultFin (csM 148) (restC 3 body31) 200 = alln 68 fun l => (relsM 1148).pre l → bytesVC (l.take 44) (backVC False fun o => (relsM 145).post (l.take 44) o) 28 0 (l.drop 44) := by kernel_rfl
end Go.Sx
