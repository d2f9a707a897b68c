/- Row FnP224ShortBack: the answer is true. -/
import Derived.Test.YtkjfcpeabdimmaaPtSh
import Derived.Test.YtkjfcpeabdimmaaRow11
set_option linter.unusedVariables false
set_option linter.unusedSimpArgs false
set_option linter.constructorNameAsVariable false
set_option maxRecDepth 100000
set_option maxHeartbeats 4000000
namespace Go.Sx
open Go.Proofs Go.FP Go.EC
theorem tabR3_X {t : List (FuncId × Con)} (h0 : (t.all fun x => x.2.id != 130 && x.2.id != 1130 && x.2.id != 131 && x.2.id != 129 && x.2.id != 132 && x.2.id != 1133 && x.2.id != 1134 && x.2.id != 1135 && x.2.id != 118 && x.2.id != 128 && x.2.id != 123 && x.2.id != 122) = true) (h : ∀ f con, (f, con) ∈ t → ConOk Try.prog relsX f con) : ∀ f con, (f, con) ∈ t → ConOk Try.prog relsQ3 f con := by
  intro f con hm
  have := List.all_eq_true.1 h0 _ hm
  simp only [Bool.and_eq_true, bne_iff_ne, ne_eq] at this
  exact (h f con hm).lift (by simp [relsQ3, relsQ2, relsL, relsX, this])
def callP (id n : Nat) (i : List Int) (K : List Int → Prop) : Prop := (relsQ3 id).pre i ∧ alln n fun o => (relsQ3 id).post i o → K o
theorem callP_of {id n : Nat} {i : List Int} {K : List Int → Prop} (hp : (relsQ3 id).pre i) (h : ∀ o : List Int, o.length = n → (relsQ3 id).post i o → K o) : callP id n i K := ⟨hp, alln_len n h⟩
def slCondP (id : Nat) (cls : List (Option Nat)) (V : (List Int → Prop) → List Int → Prop) : Prop :=
  alln (slKinds cls).length fun l => fitsC (slKinds cls) l ((relsQ3 id).pre l → V (fun o => (relsQ3 id).post l o) l)
theorem slCondP_of {id : Nat} {cls : List (Option Nat)} {V : (List Int → Prop) → List Int → Prop} (h : ∀ l : List Int, l.length = (slKinds cls).length → (relsQ3 id).pre l → V (fun o => (relsQ3 id).post l o) l) : slCondP id cls V :=
  alln_len _ fun l hl => fitsC_intro _ _ fun hp => h l hl hp
theorem okP3 {id : Nat} {l : List Int} (h : (relsQ3 id).post = postRow) : (fun o => (relsQ3 id).post l o) [1] := by
  show (relsQ3 id).post l [1]
  rw [h]
  exact (by decide : (1 : Int) ≠ 0)
def t12a : List (FuncId × Con) := [(59, canPtS.con), (63, canOutFin.con), (64, canShFin.con)] ++ tabR4
theorem t12a_ok : ∀ f con, (f, con) ∈ t12a → ConOk Try.prog relsQ3 f con := tabApp (tabCons pts_con (tabCons (outFin_con.lift rfl) (tabCons (shFin_con.lift rfl) (fun f con h => by cases h)))) (tabR3_X (by decide) tabX_ok)
def t12b : List (FuncId × Con) := [(63, canOutFar.con), (64, canShFar.con)] ++ tabR4
theorem t12b_ok : ∀ f con, (f, con) ∈ t12b → ConOk Try.prog relsQ3 f con := tabApp (tabCons (outFar_con.lift rfl) (tabCons (shFar_con.lift rfl) (fun f con h => by cases h))) (tabR3_X (by decide) tabX_ok)
def row12a (P : List Int → Prop) (l : List Int) : Prop :=
  rdK 57 l (P [1]) (callE 71 12 l fun e => callE 74 57 e fun _ => callW 124 29 e fun S => callP 128 12 S fun f => callE 74 57 f fun L => callW 124 29 f fun _ => alikeK L l fun t => P [t])
def row12b (P : List Int → Prop) (l : List Int) : Prop :=
  rdK 1 l (P [1]) (callE 71 12 l fun e => callE 73 1 e fun _ => callW 127 1 e fun S => callE 71 12 S fun f => callE 73 1 f fun L => callW 127 1 f fun _ => alikeK L l fun t => P [t])
def row12o (P : List Int → Prop) (l : List Int) : Prop := gtK (nth 0 l 0) (P [1]) (othK (nth 0 l 0) (P [1]))
theorem row12_57 : Can.condT (canSl 90 [some 57]) Try.prog X2 t12a relsQ3 11 30 = slCondP 90 [some 57] row12a := by kernel_rfl
theorem row12_1 : Can.condT (canSl 90 [some 1]) Try.prog X2 t12b relsQ3 11 30 = slCondP 90 [some 1] row12b := by kernel_rfl
theorem row12_o : Can.condT (canSl 92 [none]) Try.prog X2 tabR4 relsQ3 11 30 = slCondP 92 [none] row12o := by kernel_rfl
theorem row12_57_ok : CanOk Try.prog relsQ3 11 (canSl 90 [some 57]) := can_of_condT hX2 hm2 (tab := t12a) t12a_ok 30 (by decide) (by
  rw [row12_57]
  refine slCondP_of fun l hl hp => ?_
  have hl' : l.length = 57 := hl.trans (by decide)
  refine rdK_of (.inr rfl) hl' (fun ⟨Q, hQ⟩ => ?_) fun _ => okP3 rfl
  obtain ⟨x, y, rfl⟩ := enc57 hl' hQ
  refine callE_of ⟨_, hQ⟩ fun e le he => ?_
  obtain ⟨oe, re⟩ : ok3 e 0 ∧ ∀ P, EncB l P → Rep bF (tri3 e 0) P := he
  have hR := re _ hQ
  refine callE_of ⟨oe, ⟨_, hR⟩, rep_fin hR⟩ fun _ _ _ => callW_of ⟨oe, ⟨_, hR⟩, rep_fin hR⟩ fun S lS hS => ?_
  have hS' : ShB S (some (x, y)) := (show ∀ P, Rep bF (tri3 e 0) P → ShB S P from hS) _ hR
  refine callP_of ⟨_, hS'⟩ fun f lf hf => ?_
  obtain ⟨of, rf⟩ : ok3 f 0 ∧ ∀ P, ShB S P → Rep bF (tri3 f 0) P := hf
  have hF := rf _ hS'
  refine callE_of ⟨of, ⟨_, hF⟩, rep_fin hF⟩ fun L lL hL => callW_of ⟨of, ⟨_, hF⟩, rep_fin hF⟩ fun _ _ _ => alikeK_of (by omega) (fun _ => okP3 rfl) fun k => (k ?_).elim
  exact ((show ∀ P, Rep bF (tri3 f 0) P → EncB L P from hL) _ hF).inj hQ)
theorem row12_1_ok : CanOk Try.prog relsQ3 11 (canSl 90 [some 1]) := can_of_condT hX2 hm2 (tab := t12b) t12b_ok 30 (by decide) (by
  rw [row12_1]
  refine slCondP_of fun l hl hp => ?_
  have hl' : l.length = 1 := hl.trans (by decide)
  refine rdK_of (.inl rfl) hl' (fun ⟨Q, hQ⟩ => ?_) fun _ => okP3 rfl
  obtain ⟨rfl, el⟩ := enc1 hl' hQ
  refine callE_of ⟨_, hQ⟩ fun e le he => ?_
  obtain ⟨oe, re⟩ : ok3 e 0 ∧ ∀ P, EncB l P → Rep bF (tri3 e 0) P := he
  have hR := re _ hQ
  have hz : dec64 (el4 e 2) = 0 := hR.2.1
  refine callE_of ⟨oe, ⟨_, hR⟩, hz⟩ fun _ _ _ => callW_of ⟨oe, ⟨_, hR⟩, hz⟩ fun S lS hS => ?_
  have hS' : S = [0] := (show ∀ P, Rep bF (tri3 e 0) P → ShB S P from hS) _ hR
  have hE : EncB S none := hS'
  refine callE_of ⟨_, hE⟩ fun f lf hf => ?_
  obtain ⟨of, rf⟩ : ok3 f 0 ∧ ∀ P, EncB S P → Rep bF (tri3 f 0) P := hf
  have hF := rf _ hE
  have hzf : dec64 (el4 f 2) = 0 := hF.2.1
  refine callE_of ⟨of, ⟨_, hF⟩, hzf⟩ fun L lL hL => callW_of ⟨of, ⟨_, hF⟩, hzf⟩ fun _ _ _ => alikeK_of (by omega) (fun _ => okP3 rfl) fun k => (k ?_).elim
  exact ((show ∀ P, Rep bF (tri3 f 0) P → EncB L P from hL) _ hF).inj hQ)
theorem row12_o_ok : CanOk Try.prog relsQ3 11 (canSl 92 [none]) := can_of_condT hX2 hm2 (tab := tabR4) (tabR3_X (by decide) tabX_ok) 30 (by decide) (by
  rw [row12_o]
  exact slCondP_of fun l hl hp => gtK_of (okP3 rfl) (othK_of hp (okP3 rfl)))
end Go.Sx
