/- The laws' point of three coordinates (p224affine), by class of input. -/
import Derived.Test.YtkjfcpeabdimmaaBaseTab
set_option linter.unusedVariables false
set_option linter.unusedSimpArgs false
set_option linter.constructorNameAsVariable false
set_option maxRecDepth 100000
set_option maxHeartbeats 4000000
namespace Go.Sx
open Go.Proofs Go.FP Go.EC

def bX (i : List Int) : List Int := i.take 28
def bY (i : List Int) : List Int := (i.drop 28).take 28
def bZ (i : List Int) : List Int := i.drop 56
def hX (i : List Int) : F := tF (valB (bX i))
def hY (i : List Int) : F := tF (valB (bY i))
def hZ (i : List Int) : F := tF (valB (bZ i))
def inP (i : List Int) : Prop := valB (bX i) < pI ∧ valB (bY i) < pI ∧ valB (bZ i) < pI
def onC (x y : F) : Prop := y * y = rhs bF x
def postFin (i o : List Int) : Prop := ok32 (o.take 7) ∧ ok32 ((o.drop 7).take 7) ∧ dec32 (o.take 7) = hX i * iv (hZ i) ∧ dec32 ((o.drop 7).take 7) = hY i * iv (hZ i) ∧ isB (o.drop 14) (onC (hX i * iv (hZ i)) (hY i * iv (hZ i)))
def relFin : RelSpec := { pre := fun i => inP i ∧ hZ i ≠ 0, post := postFin }
def relFar : RelSpec := { pre := fun i => inP i ∧ hZ i = 0, post := fun i o => isB o (hX i = 0 ∧ hY i ≠ 0) }
def relBad : RelSpec := { pre := fun i => ¬ inP i, post := fun _ _ => True }
def agg3 : AV := .one (.g (vs .u8 0 84))
def canFin : Can := { id := 60, kinds := ks .u8 84, args := [agg3], hp := [], outs := ks .i64 14 ++ [.u8], res := .tup [.g [.bool false, .slice 0 0 7 14, .slice 1 0 7 14], .s (.boolv 98)], hpE := [], new := [vs .i64 84 7, vs .i64 91 7] }
def canFar : Can := { id := 61, kinds := ks .u8 84, args := [agg3], hp := [], outs := [.u8], res := .tup [.g [.bool true, .nils, .nils], .s (.boolv 84)], hpE := [], new := [] }
def canBad : Can := { id := 62, kinds := ks .u8 84, args := [agg3], hp := [], outs := [], res := .tup [.g [.bool false, .nils, .nils], .s (.bool false)], hpE := [], new := [] }
def relsA (n : Nat) : RelSpec := if n = 60 then relFin else if n = 61 then relFar else if n = 62 then relBad else if n = 99 then relTrue else relsF n

/-- A call, and what follows. -/
def callK (id n : Nat) (i : List Int) (K : List Int → Prop) : Prop := (relsF id).pre i ∧ alln n fun o => (relsF id).post i o → K o
def one1 (K : Int → Prop) : List Int → Prop
  | [r] => K r
  | _ => False
def wP : List Int := [1, 0, 0, 4294967295, 4294967295, 4294967295, 4294967295]
def wO : List Int := [0, 0, 0, 0, 0, 0, 0]
def wB : List Int := [592838580, 655046979, 3619674298, 1346678967, 4114690646, 201634731, 3020229253]
def w3 : List Int := [3, 0, 0, 0, 0, 0, 0]
def onVC (X Y : List Int) (K : Int → Prop) : Prop :=
  callK 23 7 (Y ++ Y) fun yy => callK 23 7 (X ++ X) fun xx => callK 23 7 (xx ++ X) fun xxx => callK 23 7 (w3 ++ X) fun x3 => callK 25 7 (xxx ++ x3) fun d => callK 24 7 (d ++ wB) fun rh => callK 22 1 (yy ++ rh) (one1 K)
def belowVC (x : List Int) (bad K : Prop) : Prop := callK 21 1 (x ++ wP) (one1 fun b => ∀ r : Int, r = (if b = 0 then 1 else 0) → (r ≠ 0 → bad) ∧ (r = 0 → K))
def affVC (bad : Prop) (F1 : Int → Prop) (F0 : Prop) (G : List Int → List Int → Int → Prop) (l : List Int) : Prop :=
  callK 20 7 (bX l) fun x => callK 20 7 (bY l) fun y => callK 20 7 (bZ l) fun z => belowVC x bad (belowVC y bad (belowVC z bad (callK 22 1 (z ++ wO) (one1 fun s =>
    (s ≠ 0 → callK 22 1 (x ++ wO) (one1 fun t => (t ≠ 0 → callK 22 1 (y ++ wO) (one1 fun u => ∀ r : Int, r = (if u = 0 then 1 else 0) → F1 r)) ∧ (t = 0 → F0))) ∧
    (s = 0 → callK 29 7 z fun v =>
      (callK 23 7 (x ++ v) fun X => callK 23 7 (y ++ v) fun Y => onVC X Y (G X Y)) ∧
      callK 23 7 (x ++ v) fun X => (callK 23 7 (y ++ v) fun Y => onVC X Y (G X Y)) ∧ (callK 23 7 (y ++ v) fun Y => onVC X Y (G X Y)))))))

theorem tabAllA : ∀ f con, (f, con) ∈ tabAll → ConOk Try.prog relsA f con := by
  intro f con hm
  refine (tabAll_ok f con hm).lift ?_
  have h0 : (tabAll.all fun x => x.2.id != 60 && x.2.id != 61 && x.2.id != 62 && x.2.id != 99) = true := by decide
  have := List.all_eq_true.1 h0 _ hm
  simp only [Bool.and_eq_true, bne_iff_ne, ne_eq] at this
  simp only [relsA, this.1.1.1, this.1.1.2, this.1.2, this.2, if_false]

theorem fin_cond : Can.condT canFin Try.prog X2 tabAll relsA 14 20 = inp 84 0 255 (fun l => rngs 0 255 l ((relsA 60).pre l → affVC False (fun _ => False) False (fun X Y r => (relsA 60).post l (X ++ Y ++ [r])) l)) := by kernel_rfl
end Go.Sx
