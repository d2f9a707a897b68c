/- Row FnP224Select: pieces. -/
import Derived.Test.YtkjfcpeabdimmaaRowSl3
set_option linter.unusedVariables false
set_option linter.unusedSimpArgs false
set_option linter.constructorNameAsVariable false
set_option maxRecDepth 100000
set_option maxHeartbeats 4000000
namespace Go.Sx
open Go.Proofs Go.FP Go.EC
def tabR10 : List (FuncId × Con) := (111, canCmov.con) :: tabR3
theorem tabR10_ok : ∀ f con, (f, con) ∈ tabR10 → ConOk Try.prog relsR3 f con := tabCons (cmov_ok.lift rfl) tabR3_ok
def canSlX (id : Nat) (cls : List (Option Nat)) (extra : List AV) : Can := { canSl id cls with args := slArgs 0 0 cls ++ extra }
def isT (t : Bool) : List AV := [.one (.s (.bool t))]
def cmovVC (c : Int) : List Int → List Int → (List Int → Prop) → Prop
  | x :: f, y :: e, K => callK 12 1 [c, x, y] (one1 fun r => cmovVC c f e fun o => K (r :: o))
  | _, _, K => K []
theorem cmov_of {c : Int} (hc : c = 0 ∨ c = 1) : ∀ (f e : List Int) (K : List Int → Prop), f.length = e.length → K (if c = 1 then e else f) → cmovVC c f e K
  | [], [], K, _, h => by
    have : (if c = 1 then ([] : List Int) else []) = [] := by split <;> rfl
    rw [this] at h
    exact h
  | x :: f, y :: e, K, hl, h => by
    refine callK_of (by rcases hc with rfl | rfl <;> exact ⟨by decide, by decide⟩) fun o lo ho => ?_
    match o, lo with
    | [r], _ =>
      have ho' : (c = 0 → r = x) ∧ (c = 1 → r = y) := ho
      refine cmov_of hc f e _ (by simpa using hl) ?_
      rcases hc with rfl | rfl
      · rw [ho'.1 rfl]
        exact h
      · rw [ho'.2 rfl]
        exact h
/-- The answer: is what was told the same as what was wanted? -/
def cmpL (P : List Int → Prop) (n w : Nat) (g want : List Int) : Prop := if n = w then alikeK g want fun r => P [r] else callR3 100 1 [] fun _ => P [0]
def row10VC (m k : Nat) (first : Bool) (P : List Int → Prop) (l : List Int) : Prop :=
  rdK m (l.take m) (P [1]) (rdK k (l.drop m) (P [1]) (callE 71 12 (l.take m) fun e => callE 71 12 (l.drop m) fun f => cmovVC (if first then 1 else 0) f e fun o =>
    sumEnd o (fun g => cmpL P 1 (if first then m else k) g (if first then l.take m else l.drop m)) (fun g => cmpL P 57 (if first then m else k) g (if first then l.take m else l.drop m))))
theorem row10_law {m k : Nat} {first : Bool} {P : List Int → Prop} {l : List Int} (hm : m = 1 ∨ m = 57) (hk : k = 1 ∨ k = 57) (hl : l.length = m + k) (t1 : P [1]) : row10VC m k first P l := by
  have la : (l.take m).length = m := by simp [hl]
  have lb : (l.drop m).length = k := by simp [hl]
  refine rdK_of hm la (fun ⟨A, hA⟩ => rdK_of hk lb (fun ⟨B, hB⟩ => ?_) fun _ => t1) fun _ => t1
  refine callE_of ⟨A, hA⟩ fun e le he => callE_of ⟨B, hB⟩ fun f lf hf => ?_
  obtain ⟨oe, re⟩ : ok3 e 0 ∧ ∀ P, EncB (l.take m) P → Rep bF (tri3 e 0) P := he
  obtain ⟨of, rf⟩ : ok3 f 0 ∧ ∀ P, EncB (l.drop m) P → Rep bF (tri3 f 0) P := hf
  have fin : ∀ {n w : Nat} {g want : List Int} {S : Pt p}, g.length = n → want.length = w → EncB g S → EncB want S → cmpL P n w g want := fun {n w g want S} lg lw hg hw => by
    have e := hg.inj hw
    subst e
    have e2 : n = w := by omega
    subst e2
    unfold cmpL
    rw [if_pos rfl]
    exact alikeK_of rfl (fun _ => t1) fun k => (k rfl).elim
  cases first with
  | true =>
    refine cmov_of (.inr rfl) _ _ _ (by omega) ?_
    exact outE_of oe (re A hA) (fun _ g lg hg => fin lg la hg hA) fun _ g lg hg => fin lg la hg hA
  | false =>
    refine cmov_of (.inl rfl) _ _ _ (by omega) ?_
    exact outE_of of (rf B hB) (fun _ g lg hg => fin lg lb hg hB) fun _ g lg hg => fin lg lb hg hB
def row10o (P : List Int → Prop) (l : List Int) : Prop := gtK (nth 0 l 0) (P [1]) (gtK (nth 0 l 1) (P [1]) (othK (nth 0 l 0) (P [1])))
def row10p (m : Nat) (P : List Int → Prop) (l : List Int) : Prop := gtK (nth 0 l m) (P [1]) (rdK m (l.take m) (P [1]) (othK (nth 0 l m) (P [1])))
theorem row10p_law {m : Nat} {P : List Int → Prop} {l : List Int} (hm : m = 1 ∨ m = 57) (hl : l.length = m + 1) (ho : other (l.getLastD 0)) (t1 : P [1]) : row10p m P l :=
  gtK_of t1 (rdK_of hm (by simp [hl]) (fun _ => othK_of (by rw [← last_at hl]; exact ho) t1) fun _ => t1)
theorem okR {l : List Int} : postRow l [1] := (by decide : (1 : Int) ≠ 0)
theorem row10_1_1_true : Can.condT (canSlX 90 [some 1, some 1] (isT true)) Try.prog X2 tabR10 relsR3 9 30 = slCond3 90 [some 1, some 1] (row10VC 1 1 true) := by kernel_rfl
theorem row10_1_1_true_ok : CanOk Try.prog relsR3 9 (canSlX 90 [some 1, some 1] (isT true)) := can_of_condT hX2 hm2 (tab := tabR10) tabR10_ok 30 (by decide) (by rw [row10_1_1_true]; exact slCond3_of fun l hl _ => row10_law (.inl rfl) (.inl rfl) (hl.trans (by decide)) (okR (l := l)))
theorem row10_1_57_true : Can.condT (canSlX 90 [some 1, some 57] (isT true)) Try.prog X2 tabR10 relsR3 9 30 = slCond3 90 [some 1, some 57] (row10VC 1 57 true) := by kernel_rfl
theorem row10_1_57_true_ok : CanOk Try.prog relsR3 9 (canSlX 90 [some 1, some 57] (isT true)) := can_of_condT hX2 hm2 (tab := tabR10) tabR10_ok 30 (by decide) (by rw [row10_1_57_true]; exact slCond3_of fun l hl _ => row10_law (.inl rfl) (.inr rfl) (hl.trans (by decide)) (okR (l := l)))
theorem row10_1_o_true : Can.condT (canSlX 91 [some 1, none] (isT true)) Try.prog X2 tabR10 relsR3 9 30 = slCond3 91 [some 1, none] (row10p 1) := by kernel_rfl
theorem row10_1_o_true_ok : CanOk Try.prog relsR3 9 (canSlX 91 [some 1, none] (isT true)) := can_of_condT hX2 hm2 (tab := tabR10) tabR10_ok 30 (by decide) (by rw [row10_1_o_true]; exact slCond3_of fun l hl hp => row10p_law (.inl rfl) (hl.trans (by decide)) hp (okR (l := l)))
theorem row10_57_1_true : Can.condT (canSlX 90 [some 57, some 1] (isT true)) Try.prog X2 tabR10 relsR3 9 30 = slCond3 90 [some 57, some 1] (row10VC 57 1 true) := by kernel_rfl
theorem row10_57_1_true_ok : CanOk Try.prog relsR3 9 (canSlX 90 [some 57, some 1] (isT true)) := can_of_condT hX2 hm2 (tab := tabR10) tabR10_ok 30 (by decide) (by rw [row10_57_1_true]; exact slCond3_of fun l hl _ => row10_law (.inr rfl) (.inl rfl) (hl.trans (by decide)) (okR (l := l)))
theorem row10_57_57_true : Can.condT (canSlX 90 [some 57, some 57] (isT true)) Try.prog X2 tabR10 relsR3 9 30 = slCond3 90 [some 57, some 57] (row10VC 57 57 true) := by kernel_rfl
theorem row10_57_57_true_ok : CanOk Try.prog relsR3 9 (canSlX 90 [some 57, some 57] (isT true)) := can_of_condT hX2 hm2 (tab := tabR10) tabR10_ok 30 (by decide) (by rw [row10_57_57_true]; exact slCond3_of fun l hl _ => row10_law (.inr rfl) (.inr rfl) (hl.trans (by decide)) (okR (l := l)))
theorem row10_57_o_true : Can.condT (canSlX 91 [some 57, none] (isT true)) Try.prog X2 tabR10 relsR3 9 30 = slCond3 91 [some 57, none] (row10p 57) := by kernel_rfl
theorem row10_57_o_true_ok : CanOk Try.prog relsR3 9 (canSlX 91 [some 57, none] (isT true)) := can_of_condT hX2 hm2 (tab := tabR10) tabR10_ok 30 (by decide) (by rw [row10_57_o_true]; exact slCond3_of fun l hl hp => row10p_law (.inr rfl) (hl.trans (by decide)) hp (okR (l := l)))
theorem row10_oo_true : Can.condT (canSlX 92 [none, none] (isT true)) Try.prog X2 tabR10 relsR3 9 30 = slCond3 92 [none, none] row10o := by kernel_rfl
theorem row10_oo_true_ok : CanOk Try.prog relsR3 9 (canSlX 92 [none, none] (isT true)) := can_of_condT hX2 hm2 (tab := tabR10) tabR10_ok 30 (by decide) (by rw [row10_oo_true]; exact slCond3_of fun l hl hp => gtK_of (okR (l := l)) (gtK_of (okR (l := l)) (othK_of hp (okR (l := l)))))
theorem row10_1_1_false : Can.condT (canSlX 90 [some 1, some 1] (isT false)) Try.prog X2 tabR10 relsR3 9 30 = slCond3 90 [some 1, some 1] (row10VC 1 1 false) := by kernel_rfl
theorem row10_1_1_false_ok : CanOk Try.prog relsR3 9 (canSlX 90 [some 1, some 1] (isT false)) := can_of_condT hX2 hm2 (tab := tabR10) tabR10_ok 30 (by decide) (by rw [row10_1_1_false]; exact slCond3_of fun l hl _ => row10_law (.inl rfl) (.inl rfl) (hl.trans (by decide)) (okR (l := l)))
theorem row10_1_57_false : Can.condT (canSlX 90 [some 1, some 57] (isT false)) Try.prog X2 tabR10 relsR3 9 30 = slCond3 90 [some 1, some 57] (row10VC 1 57 false) := by kernel_rfl
theorem row10_1_57_false_ok : CanOk Try.prog relsR3 9 (canSlX 90 [some 1, some 57] (isT false)) := can_of_condT hX2 hm2 (tab := tabR10) tabR10_ok 30 (by decide) (by rw [row10_1_57_false]; exact slCond3_of fun l hl _ => row10_law (.inl rfl) (.inr rfl) (hl.trans (by decide)) (okR (l := l)))
theorem row10_1_o_false : Can.condT (canSlX 91 [some 1, none] (isT false)) Try.prog X2 tabR10 relsR3 9 30 = slCond3 91 [some 1, none] (row10p 1) := by kernel_rfl
theorem row10_1_o_false_ok : CanOk Try.prog relsR3 9 (canSlX 91 [some 1, none] (isT false)) := can_of_condT hX2 hm2 (tab := tabR10) tabR10_ok 30 (by decide) (by rw [row10_1_o_false]; exact slCond3_of fun l hl hp => row10p_law (.inl rfl) (hl.trans (by decide)) hp (okR (l := l)))
theorem row10_57_1_false : Can.condT (canSlX 90 [some 57, some 1] (isT false)) Try.prog X2 tabR10 relsR3 9 30 = slCond3 90 [some 57, some 1] (row10VC 57 1 false) := by kernel_rfl
theorem row10_57_1_false_ok : CanOk Try.prog relsR3 9 (canSlX 90 [some 57, some 1] (isT false)) := can_of_condT hX2 hm2 (tab := tabR10) tabR10_ok 30 (by decide) (by rw [row10_57_1_false]; exact slCond3_of fun l hl _ => row10_law (.inr rfl) (.inl rfl) (hl.trans (by decide)) (okR (l := l)))
theorem row10_57_57_false : Can.condT (canSlX 90 [some 57, some 57] (isT false)) Try.prog X2 tabR10 relsR3 9 30 = slCond3 90 [some 57, some 57] (row10VC 57 57 false) := by kernel_rfl
theorem row10_57_57_false_ok : CanOk Try.prog relsR3 9 (canSlX 90 [some 57, some 57] (isT false)) := can_of_condT hX2 hm2 (tab := tabR10) tabR10_ok 30 (by decide) (by rw [row10_57_57_false]; exact slCond3_of fun l hl _ => row10_law (.inr rfl) (.inr rfl) (hl.trans (by decide)) (okR (l := l)))
theorem row10_57_o_false : Can.condT (canSlX 91 [some 57, none] (isT false)) Try.prog X2 tabR10 relsR3 9 30 = slCond3 91 [some 57, none] (row10p 57) := by kernel_rfl
theorem row10_57_o_false_ok : CanOk Try.prog relsR3 9 (canSlX 91 [some 57, none] (isT false)) := can_of_condT hX2 hm2 (tab := tabR10) tabR10_ok 30 (by decide) (by rw [row10_57_o_false]; exact slCond3_of fun l hl hp => row10p_law (.inr rfl) (hl.trans (by decide)) hp (okR (l := l)))
theorem row10_oo_false : Can.condT (canSlX 92 [none, none] (isT false)) Try.prog X2 tabR10 relsR3 9 30 = slCond3 92 [none, none] row10o := by kernel_rfl
theorem row10_oo_false_ok : CanOk Try.prog relsR3 9 (canSlX 92 [none, none] (isT false)) := can_of_condT hX2 hm2 (tab := tabR10) tabR10_ok 30 (by decide) (by rw [row10_oo_false]; exact slCond3_of fun l hl hp => gtK_of (okR (l := l)) (gtK_of (okR (l := l)) (othK_of hp (okR (l := l)))))
end Go.Sx
