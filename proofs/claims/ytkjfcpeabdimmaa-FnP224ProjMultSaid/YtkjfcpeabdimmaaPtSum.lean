/- The laws' sum of two points given by bytes (p224sum), by length and by whether the sum is far. -/
import Derived.Test.YtkjfcpeabdimmaaPtIO
set_option linter.unusedVariables false
set_option linter.unusedSimpArgs false
set_option linter.constructorNameAsVariable false
set_option maxRecDepth 100000
set_option maxHeartbeats 4000000
namespace Go.Sx
open Go.Proofs Go.FP Go.EC
def bothEnc (m : Nat) (i : List Int) (P Q : Pt p) : Prop := EncB (i.take m) P ∧ EncB (i.drop m) Q
def postSum (m : Nat) (i o : List Int) : Prop := ∀ P Q, bothEnc m i P Q → EncB o (asum iv P Q)
def relSumFar (m : Nat) : RelSpec := { pre := fun i => ∃ P Q, bothEnc m i P Q ∧ asum iv P Q = none, post := postSum m }
def relSumFin (m : Nat) : RelSpec := { pre := fun i => ∃ P Q, bothEnc m i P Q ∧ asum iv P Q ≠ none, post := postSum m }
def relAskSum (m : Nat) : RelSpec := { pre := fun _ => True, post := fun i o => isB o (∃ P Q, bothEnc m i P Q ∧ asum iv P Q = none) }
/-- 80, 81: sums whose first point has one byte; 82, 83: 57 bytes; 84, 85: whether they are far. -/
def relsS (n : Nat) : RelSpec := if n = 80 then relSumFar 1 else if n = 81 then relSumFin 1 else if n = 82 then relSumFar 57 else if n = 83 then relSumFin 57 else if n = 84 then relAskSum 1 else if n = 85 then relAskSum 57 else relsE n
theorem relsS_E {n : Nat} (h : n < 80 ∨ 85 < n) : relsS n = relsE n := by
  unfold relsS
  rw [if_neg (by omega), if_neg (by omega), if_neg (by omega), if_neg (by omega), if_neg (by omega), if_neg (by omega)]
theorem tabES_ok : ∀ f con, (f, con) ∈ tabE → ConOk Try.prog relsS f con := by
  intro f con hm
  have h0 : (tabE.all fun x => decide (x.2.id < 80 ∨ 85 < x.2.id)) = true := by decide
  exact (tabEE_ok f con hm).lift (relsS_E (by simpa using List.all_eq_true.1 h0 _ hm))
def callE (id n : Nat) (i : List Int) (K : List Int → Prop) : Prop := (relsE id).pre i ∧ alln n fun o => (relsE id).post i o → K o
theorem callE_of {id n : Nat} {i : List Int} {K : List Int → Prop} (hp : (relsE id).pre i) (h : ∀ o : List Int, o.length = n → (relsE id).post i o → K o) : callE id n i K := ⟨hp, alln_len n h⟩
/-- m, k: the lengths. -/
def canSum (id m k len : Nat) : Can := { id := id, kinds := ks .u8 (m + k), args := [.one (.s (.sliceU 0 0 m)), .one (.s (.sliceU 1 0 k))], hp := [ro (vs .u8 0 m), ro (vs .u8 m k)], outs := ks .u8 len, res := .one (.s (.slice 2 0 len 57)), hpE := [vs .u8 0 m, vs .u8 m k], new := [vs .u8 (m + k) len] }
def sumEnd (o : List Int) (A B : List Int → Prop) : Prop := callE 72 1 o (one1 fun z => (z ≠ 0 → callE 73 1 o A) ∧ (z = 0 → callE 74 57 o B))
def sumE (m : Nat) (A B : List Int → Prop) (l : List Int) : Prop := callE 71 12 (l.take m) fun e => callE 71 12 (l.drop m) fun f => callE 63 12 (e ++ f) fun o => sumEnd o A B
theorem outE_of {o : List Int} {A B : List Int → Prop} {S : Pt p} (ho : ok3 o 0) (hS : Rep bF (tri3 o 0) S) (hA : S = none → ∀ b, b.length = 1 → EncB b S → A b) (hB : S ≠ none → ∀ b, b.length = 57 → EncB b S → B b) : sumEnd o A B := by
  refine callE_of trivial fun z lz hz => ?_
  have hz' : isB z (dec64 (el4 o 2) = 0) := hz
  match z, lz with
  | [r], _ =>
    by_cases h : dec64 (el4 o 2) = 0
    · have e1 : r = 1 := hz'.1 h
      subst e1
      refine ⟨fun _ => callE_of ⟨ho, ⟨S, hS⟩, h⟩ fun b lb hb => hA ?_ b lb (hb S hS), fun k => absurd k (by decide)⟩
      match S, hS with
      | none, _ => rfl
      | some (x, y), hS => exact (hS.1 h).elim
    · have e0 : r = 0 := hz'.2 h
      subst e0
      refine ⟨fun k => absurd rfl k, fun _ => callE_of ⟨ho, ⟨S, hS⟩, h⟩ fun b lb hb => hB ?_ b lb (hb S hS)⟩
      match S, hS with
      | none, hS => exact (h hS.2.1).elim
      | some (x, y), hS => simp
theorem ok3_app {e f : List Int} (le : e.length = 12) (lf : f.length = 12) (he : ok3 e 0) (hf : ok3 f 0) : ok3 (e ++ f) 0 ∧ ok3 (e ++ f) 3 ∧ tri3 (e ++ f) 0 = tri3 e 0 ∧ tri3 (e ++ f) 3 = tri3 f 0 := by
  have h1 : ∀ k, k < 3 → el4 (e ++ f) k = el4 e k := fun k hk => by
    simp only [el4]
    rw [List.drop_append_of_le_length (by omega), List.take_append_of_le_length (by simp; omega)]
  have h2 : ∀ k, el4 (e ++ f) (k + 3) = el4 f k := fun k => by
    simp only [el4]
    rw [show 4 * (k + 3) = 12 + 4 * k by omega, ← List.drop_drop, drop_app le]
  obtain ⟨a, b, c⟩ := he
  obtain ⟨a', b', c'⟩ := hf
  refine ⟨⟨?_, ?_, ?_⟩, ⟨?_, ?_, ?_⟩, ?_, ?_⟩
  · rw [h1 0 (by omega)]; exact a
  · rw [h1 1 (by omega)]; exact b
  · rw [h1 2 (by omega)]; exact c
  · rw [h2 0]; exact a'
  · rw [h2 1]; exact b'
  · rw [h2 2]; exact c'
  · simp only [tri3, Nat.zero_add]
    rw [h1 0 (by omega), h1 1 (by omega), h1 2 (by omega)]
  · simp only [tri3]
    rw [h2 0, show 3 + 1 = 1 + 3 from rfl, h2 1, show 3 + 2 = 2 + 3 from rfl, h2 2]
theorem sumE_of {m : Nat} {A B : List Int → Prop} {l : List Int} {P Q : Pt p} (h : bothEnc m l P Q) (hA : asum iv P Q = none → ∀ b, b.length = 1 → EncB b (asum iv P Q) → A b) (hB : asum iv P Q ≠ none → ∀ b, b.length = 57 → EncB b (asum iv P Q) → B b) : sumE m A B l := by
  refine callE_of ⟨P, h.1⟩ fun e le he => callE_of ⟨Q, h.2⟩ fun f lf hf => ?_
  obtain ⟨oe, re⟩ : ok3 e 0 ∧ ∀ P, EncB (l.take m) P → Rep bF (tri3 e 0) P := he
  obtain ⟨of, rf⟩ : ok3 f 0 ∧ ∀ P, EncB (l.drop m) P → Rep bF (tri3 f 0) P := hf
  obtain ⟨k1, k2, k3, k4⟩ := ok3_app le lf oe of
  refine callE_of ⟨k1, k2⟩ fun o lo ho => ?_
  obtain ⟨oo, to⟩ : ok3 o 0 ∧ tri3 o 0 = cadd bF (tri3 (e ++ f) 0) (tri3 (e ++ f) 3) := ho
  refine outE_of oo ?_ hA hB
  rw [to, k3, k4]
  exact Go.EC.rep_add good (re P h.1) (rf Q h.2)
theorem bothEnc.uniq {m : Nat} {l : List Int} {P Q P' Q' : Pt p} (h : bothEnc m l P Q) (k : bothEnc m l P' Q') : P = P' ∧ Q = Q' := ⟨h.1.uniq k.1, h.2.uniq k.2⟩

theorem s11_far : Can.condT (canSum 80 1 1 1) Try.prog X2 tabE relsS 41 20 = inp 2 0 255 (fun l => rngs 0 255 l ((relsS 80).pre l → sumE 1 (fun o => (relsS 80).post l o) (fun _ => False) l)) := by kernel_rfl
theorem s11_fin : Can.condT (canSum 81 1 1 57) Try.prog X2 tabE relsS 41 20 = inp 2 0 255 (fun l => rngs 0 255 l ((relsS 81).pre l → sumE 1 (fun _ => False) (fun o => (relsS 81).post l o) l)) := by kernel_rfl
theorem s157_far : Can.condT (canSum 80 1 57 1) Try.prog X2 tabE relsS 41 20 = inp 58 0 255 (fun l => rngs 0 255 l ((relsS 80).pre l → sumE 1 (fun o => (relsS 80).post l o) (fun _ => False) l)) := by kernel_rfl
theorem s157_fin : Can.condT (canSum 81 1 57 57) Try.prog X2 tabE relsS 41 20 = inp 58 0 255 (fun l => rngs 0 255 l ((relsS 81).pre l → sumE 1 (fun _ => False) (fun o => (relsS 81).post l o) l)) := by kernel_rfl
theorem s571_far : Can.condT (canSum 82 57 1 1) Try.prog X2 tabE relsS 41 20 = inp 58 0 255 (fun l => rngs 0 255 l ((relsS 82).pre l → sumE 57 (fun o => (relsS 82).post l o) (fun _ => False) l)) := by kernel_rfl
theorem s571_fin : Can.condT (canSum 83 57 1 57) Try.prog X2 tabE relsS 41 20 = inp 58 0 255 (fun l => rngs 0 255 l ((relsS 83).pre l → sumE 57 (fun _ => False) (fun o => (relsS 83).post l o) l)) := by kernel_rfl
theorem s5757_far : Can.condT (canSum 82 57 57 1) Try.prog X2 tabE relsS 41 20 = inp 114 0 255 (fun l => rngs 0 255 l ((relsS 82).pre l → sumE 57 (fun o => (relsS 82).post l o) (fun _ => False) l)) := by kernel_rfl
theorem s5757_fin : Can.condT (canSum 83 57 57 57) Try.prog X2 tabE relsS 41 20 = inp 114 0 255 (fun l => rngs 0 255 l ((relsS 83).pre l → sumE 57 (fun _ => False) (fun o => (relsS 83).post l o) l)) := by kernel_rfl
theorem far_law {m : Nat} {l : List Int} (h : ∃ P Q, bothEnc m l P Q ∧ asum iv P Q = none) : sumE m (fun o => postSum m l o) (fun _ => False) l := by
  obtain ⟨P, Q, h1, h2⟩ := h
  refine sumE_of h1 (fun _ b _ hb P' Q' h' => ?_) (fun k => (k h2).elim)
  obtain ⟨rfl, rfl⟩ := h1.uniq h'
  exact hb
theorem fin_law {m : Nat} {l : List Int} (h : ∃ P Q, bothEnc m l P Q ∧ asum iv P Q ≠ none) : sumE m (fun _ => False) (fun o => postSum m l o) l := by
  obtain ⟨P, Q, h1, h2⟩ := h
  refine sumE_of h1 (fun k => (h2 k).elim) (fun _ b _ hb P' Q' h' => ?_)
  obtain ⟨rfl, rfl⟩ := h1.uniq h'
  exact hb
theorem s11_far_con : ConOk Try.prog relsS 41 (canSum 80 1 1 1).con := con_of_can (can_of_condT hX2 hm2 (tab := tabE) tabES_ok 20 (by decide) (by rw [s11_far]; exact inp_of _ _ _ _ fun l hl => rngs_of _ _ fun _ hp => far_law hp))
theorem s11_fin_con : ConOk Try.prog relsS 41 (canSum 81 1 1 57).con := con_of_can (can_of_condT hX2 hm2 (tab := tabE) tabES_ok 20 (by decide) (by rw [s11_fin]; exact inp_of _ _ _ _ fun l hl => rngs_of _ _ fun _ hp => fin_law hp))
theorem s157_far_con : ConOk Try.prog relsS 41 (canSum 80 1 57 1).con := con_of_can (can_of_condT hX2 hm2 (tab := tabE) tabES_ok 20 (by decide) (by rw [s157_far]; exact inp_of _ _ _ _ fun l hl => rngs_of _ _ fun _ hp => far_law hp))
theorem s157_fin_con : ConOk Try.prog relsS 41 (canSum 81 1 57 57).con := con_of_can (can_of_condT hX2 hm2 (tab := tabE) tabES_ok 20 (by decide) (by rw [s157_fin]; exact inp_of _ _ _ _ fun l hl => rngs_of _ _ fun _ hp => fin_law hp))
theorem s571_far_con : ConOk Try.prog relsS 41 (canSum 82 57 1 1).con := con_of_can (can_of_condT hX2 hm2 (tab := tabE) tabES_ok 20 (by decide) (by rw [s571_far]; exact inp_of _ _ _ _ fun l hl => rngs_of _ _ fun _ hp => far_law hp))
theorem s571_fin_con : ConOk Try.prog relsS 41 (canSum 83 57 1 57).con := con_of_can (can_of_condT hX2 hm2 (tab := tabE) tabES_ok 20 (by decide) (by rw [s571_fin]; exact inp_of _ _ _ _ fun l hl => rngs_of _ _ fun _ hp => fin_law hp))
theorem s5757_far_con : ConOk Try.prog relsS 41 (canSum 82 57 57 1).con := con_of_can (can_of_condT hX2 hm2 (tab := tabE) tabES_ok 20 (by decide) (by rw [s5757_far]; exact inp_of _ _ _ _ fun l hl => rngs_of _ _ fun _ hp => far_law hp))
theorem s5757_fin_con : ConOk Try.prog relsS 41 (canSum 83 57 57 57).con := con_of_can (can_of_condT hX2 hm2 (tab := tabE) tabES_ok 20 (by decide) (by rw [s5757_fin]; exact inp_of _ _ _ _ fun l hl => rngs_of _ _ fun _ hp => fin_law hp))
def tabSums : List (FuncId × Con) := [(41, (canSum 80 1 1 1).askc 84), (41, (canSum 80 1 1 1).con), (41, (canSum 81 1 1 57).con), (41, (canSum 80 1 57 1).askc 84), (41, (canSum 80 1 57 1).con), (41, (canSum 81 1 57 57).con),
  (41, (canSum 82 57 1 1).askc 85), (41, (canSum 82 57 1 1).con), (41, (canSum 83 57 1 57).con), (41, (canSum 82 57 57 1).askc 85), (41, (canSum 82 57 57 1).con), (41, (canSum 83 57 57 57).con)]
def tabSm : List (FuncId × Con) := tabSums ++ tabE
theorem ask1 : ∀ i, ∃ o : Int, (relsS 84).post i [o] := askB fun i => ∃ P Q, bothEnc 1 i P Q ∧ asum iv P Q = none
theorem ask57 : ∀ i, ∃ o : Int, (relsS 85).post i [o] := askB fun i => ∃ P Q, bothEnc 57 i P Q ∧ asum iv P Q = none
theorem tabSm_ok : ∀ f con, (f, con) ∈ tabSm → ConOk Try.prog relsS f con :=
  tabApp (tabCons (ask_ok ask1) (tabCons s11_far_con (tabCons s11_fin_con (tabCons (ask_ok ask1) (tabCons s157_far_con (tabCons s157_fin_con (tabCons (ask_ok ask57) (tabCons s571_far_con (tabCons s571_fin_con (tabCons (ask_ok ask57) (tabCons s5757_far_con (tabCons s5757_fin_con
    (fun f con h => by cases h))))))))))))) tabES_ok
end Go.Sx
