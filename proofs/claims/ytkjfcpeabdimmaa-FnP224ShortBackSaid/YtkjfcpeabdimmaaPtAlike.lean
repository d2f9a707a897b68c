/- The laws' p224alike: two points of bytes, by length. -/
import Derived.Test.YtkjfcpeabdimmaaBaseSl
set_option linter.unusedVariables false
set_option linter.unusedSimpArgs false
set_option linter.constructorNameAsVariable false
set_option maxRecDepth 100000
set_option maxHeartbeats 4000000
namespace Go.Sx
open Go.Proofs Go.FP Go.EC
def endL (P : List Int → Prop) (n : Nat) (u : List Int) (q : Nat) (w : List Int) : Prop := match n, q with
  | 1, 1 => alikeK u w fun r => ifK r (rdK 1 u (P [0]) (P [1])) (P [0])
  | 57, 57 => alikeK u w fun r => ifK r (rdK 57 u (P [0]) (P [1])) (P [0])
  | _, _ => callR3 100 1 [] fun _ => P [0]
def relAl (n : Nat) : RelSpec := { pre := fun _ => True, post := fun i o => isB o (i.take n = i.drop n ∧ isEnc (i.take n)) }
/-- 98, 99: the number behind the first slice is another length; 101, 102: the same points. -/
def relAt (m : Nat) : RelSpec := { pre := fun i => other (nth 0 i m), post := postRow }
def relsR4 (n : Nat) : RelSpec := if n = 98 then relAt 1 else if n = 99 then relAt 57 else if n = 101 then relAl 1 else if n = 102 then relAl 57 else relsR3 n
theorem tabR34_ok : ∀ f con, (f, con) ∈ tabR3 → ConOk Try.prog relsR4 f con := by
  intro f con hm
  have h0 : (tabR3.all fun x => x.2.id != 98 && x.2.id != 99 && x.2.id != 101 && x.2.id != 102) = true := by decide
  have := List.all_eq_true.1 h0 _ hm
  simp only [Bool.and_eq_true, bne_iff_ne, ne_eq] at this
  exact (tabR3_ok f con hm).lift (by simp [relsR4, this.1.1.1, this.1.1.2, this.1.2, this.2])
def canAl (id n q : Nat) : Can := { id := id, kinds := ks .u8 (n + q), args := [.one (.s (.sliceU 0 0 n)), .one (.s (.sliceU 1 0 q))], hp := [ro (vs .u8 0 n), ro (vs .u8 n q)], outs := [.u8], res := .one (.s (.boolv (n + q))), hpE := [vs .u8 0 n, vs .u8 n q], new := [] }
theorem endL_al {n q : Nat} {l : List Int} (hn : n = 1 ∨ n = 57) (hq : q = 1 ∨ q = 57) (hl : l.length = n + q) : endL (fun o => (relAl n).post l o) n (l.take n) q (l.drop n) := by
  have lu : (l.take n).length = n := by simp [hl]
  have lw : (l.drop n).length = q := by simp [hl]
  have no : l.take n ≠ l.drop n → (fun o => (relAl n).post l o) [0] := fun h => ⟨fun k => (h k.1).elim, fun _ => rfl⟩
  have eq1 : ∀ r : Int, r = 1 ∨ r = 0 → True := fun _ _ => trivial
  have same : ∀ m, m = n → m = q → (m = 1 ∨ m = 57) → alikeK (l.take n) (l.drop n) fun r => ifK r (rdK m (l.take n) ((fun o => (relAl n).post l o) [0]) ((fun o => (relAl n).post l o) [1])) ((fun o => (relAl n).post l o) [0]) := fun m e1 e2 hm => by
    refine alikeK_of (by omega) (fun h => ifK_1 (rdK_of hm (by omega) (fun k => ⟨fun _ => rfl, fun j => (j ⟨h, k⟩).elim⟩) fun k => ⟨fun j => (k j.2).elim, fun _ => rfl⟩)) fun h => ifK_0 (no h)
  have diff : n ≠ q → callR3 100 1 [] fun _ => (fun o => (relAl n).post l o) [0] := fun h => callR3_of trivial fun _ _ _ => no fun e => h (by have := congrArg List.length e; omega)
  rcases hn with rfl | rfl <;> rcases hq with rfl | rfl
  · exact same 1 rfl rfl (.inl rfl)
  · exact diff (by decide)
  · exact diff (by decide)
  · exact same 57 rfl rfl (.inr rfl)
theorem al_1_1 : Can.condT (canAl 101 1 1) Try.prog X2 tabR3 relsR4 40 20 = inp 2 0 255 (fun l => rngs 0 255 l ((relsR4 101).pre l → endL (fun o => (relAl 1).post l o) 1 (l.take 1) 1 (l.drop 1))) := by kernel_rfl
theorem al_1_1_con : ConOk Try.prog relsR4 40 (canAl 101 1 1).con := con_of_can (can_of_condT hX2 hm2 (tab := tabR3) tabR34_ok 20 (by decide) (by rw [al_1_1]; exact inp_of _ _ _ _ fun l hl => rngs_of _ _ fun _ _ => endL_al (.inl rfl) (.inl rfl) hl))
theorem al_1_57 : Can.condT (canAl 101 1 57) Try.prog X2 tabR3 relsR4 40 20 = inp 58 0 255 (fun l => rngs 0 255 l ((relsR4 101).pre l → endL (fun o => (relAl 1).post l o) 1 (l.take 1) 57 (l.drop 1))) := by kernel_rfl
theorem al_1_57_con : ConOk Try.prog relsR4 40 (canAl 101 1 57).con := con_of_can (can_of_condT hX2 hm2 (tab := tabR3) tabR34_ok 20 (by decide) (by rw [al_1_57]; exact inp_of _ _ _ _ fun l hl => rngs_of _ _ fun _ _ => endL_al (.inl rfl) (.inr rfl) hl))
theorem al_57_1 : Can.condT (canAl 102 57 1) Try.prog X2 tabR3 relsR4 40 20 = inp 58 0 255 (fun l => rngs 0 255 l ((relsR4 102).pre l → endL (fun o => (relAl 57).post l o) 57 (l.take 57) 1 (l.drop 57))) := by kernel_rfl
theorem al_57_1_con : ConOk Try.prog relsR4 40 (canAl 102 57 1).con := con_of_can (can_of_condT hX2 hm2 (tab := tabR3) tabR34_ok 20 (by decide) (by rw [al_57_1]; exact inp_of _ _ _ _ fun l hl => rngs_of _ _ fun _ _ => endL_al (.inr rfl) (.inl rfl) hl))
theorem al_57_57 : Can.condT (canAl 102 57 57) Try.prog X2 tabR3 relsR4 40 20 = inp 114 0 255 (fun l => rngs 0 255 l ((relsR4 102).pre l → endL (fun o => (relAl 57).post l o) 57 (l.take 57) 57 (l.drop 57))) := by kernel_rfl
theorem al_57_57_con : ConOk Try.prog relsR4 40 (canAl 102 57 57).con := con_of_can (can_of_condT hX2 hm2 (tab := tabR3) tabR34_ok 20 (by decide) (by rw [al_57_57]; exact inp_of _ _ _ _ fun l hl => rngs_of _ _ fun _ _ => endL_al (.inr rfl) (.inr rfl) hl))
def tabAl : List (FuncId × Con) := [(40, (canAl 102 57 57).con), (40, (canAl 102 57 1).con), (40, (canAl 101 1 57).con), (40, (canAl 101 1 1).con)]
/-- The sums again, the longest first. -/
def tabSums2 : List (FuncId × Con) := [(41, (canSum 82 57 57 1).askc 85), (41, (canSum 82 57 57 1).con), (41, (canSum 83 57 57 57).con), (41, (canSum 82 57 1 1).askc 85), (41, (canSum 82 57 1 1).con), (41, (canSum 83 57 1 57).con),
  (41, (canSum 80 1 57 1).askc 84), (41, (canSum 80 1 57 1).con), (41, (canSum 81 1 57 57).con), (41, (canSum 80 1 1 1).askc 84), (41, (canSum 80 1 1 1).con), (41, (canSum 81 1 1 57).con)]
def tabR4 : List (FuncId × Con) := tabAl ++ (tabSums2 ++ tabR3)
theorem tabSums2_ok : ∀ f con, (f, con) ∈ tabSums2 → ConOk Try.prog relsR4 f con :=
  tabCons (ask_ok ask57) (tabCons (s5757_far_con.lift rfl) (tabCons (s5757_fin_con.lift rfl) (tabCons (ask_ok ask57) (tabCons (s571_far_con.lift rfl) (tabCons (s571_fin_con.lift rfl)
    (tabCons (ask_ok ask1) (tabCons (s157_far_con.lift rfl) (tabCons (s157_fin_con.lift rfl) (tabCons (ask_ok ask1) (tabCons (s11_far_con.lift rfl) (tabCons (s11_fin_con.lift rfl) (fun f con h => by cases h))))))))))))
theorem tabR4_ok : ∀ f con, (f, con) ∈ tabR4 → ConOk Try.prog relsR4 f con :=
  tabApp (tabCons al_57_57_con (tabCons al_57_1_con (tabCons al_1_57_con (tabCons al_1_1_con (fun f con h => by cases h))))) (tabApp tabSums2_ok tabR34_ok)
def callR4 (id n : Nat) (i : List Int) (K : List Int → Prop) : Prop := (relsR4 id).pre i ∧ alln n fun o => (relsR4 id).post i o → K o
theorem callR4_of {id n : Nat} {i : List Int} {K : List Int → Prop} (hp : (relsR4 id).pre i) (h : ∀ o : List Int, o.length = n → (relsR4 id).post i o → K o) : callR4 id n i K := ⟨hp, alln_len n h⟩
/-- Are they the same points? -/
def alL (P : List Int → Prop) (n : Nat) (u w : List Int) : Prop := match n with
  | 1 => callR4 101 1 (u ++ w) (one1 fun r => P [r])
  | _ => callR4 102 1 (u ++ w) (one1 fun r => P [r])
theorem alL_of {P : List Int → Prop} {n : Nat} {u w : List Int} {S : Pt p} (hn : n = 1 ∨ n = 57) (lu : u.length = n) (hu : EncB u S) (hw : EncB w S) (t1 : P [1]) : alL P n u w := by
  have e := hu.inj hw
  subst e
  have key : ∀ o : List Int, o.length = 1 → (relAl n).post (u ++ u) o → one1 (fun r => P [r]) o := fun o lo ho => by
    have ho' : isB o ((u ++ u).take n = (u ++ u).drop n ∧ isEnc ((u ++ u).take n)) := ho
    rw [take_app lu, drop_app lu] at ho'
    match o, lo with
    | [r], _ =>
      have e1 : r = 1 := ho'.1 ⟨rfl, S, hu⟩
      subst e1
      exact t1
  rcases hn with rfl | rfl
  · exact callR4_of trivial key
  · exact callR4_of trivial key
end Go.Sx
