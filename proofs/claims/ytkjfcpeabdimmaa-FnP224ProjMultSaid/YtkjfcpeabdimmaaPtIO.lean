/- Points read of bytes that are ones, and told. -/
import Derived.Test.YtkjfcpeabdimmaaRowEnc
set_option linter.unusedVariables false
set_option linter.unusedSimpArgs false
set_option linter.constructorNameAsVariable false
set_option maxRecDepth 100000
set_option maxHeartbeats 4000000
namespace Go.Sx
open Go.Proofs Go.FP Go.EC
def eOne : List Int := [18446744069414584320, 18446744073709551615, 0, 0]
theorem eltOne : Elt eOne 1 := ⟨rfl, okMinus.2.1, okMinus.2.2.2⟩
/-- Is the byte this one? -/
def byteK (x n : Int) (A B : Prop) : Prop := ∀ r : Int, r = (if cmpFn .eql x n = true then 1 else 0) → (r ≠ 0 → A) ∧ (r = 0 → B)
theorem byteK_of {x n : Int} {A B : Prop} (h1 : x = n → A) (h0 : x ≠ n → B) : byteK x n A B := by
  intro r er
  have hr := cmp_ite er
  refine ⟨fun h => h1 ?_, fun h => h0 fun e => ?_⟩
  · have := hr.1 h
    simpa [cmpFn] using this
  · exact hr.2 (by simpa [cmpFn] using e) h
def pt57VC (Q : List Int → Prop) (l : List Int) : Prop :=
  byteK (nth 0 l 0) 4 (setU (cX l) False fun ex => setU (cY l) False fun ey => checkVC ex ey False (Q (ex ++ ey ++ eOne))) False
theorem pt57_cond : Can.condT (canPt 57) Try.prog X2 tabU relsE 59 20 = inp 57 0 255 (fun l => rngs 0 255 l ((relsE 71).pre l → pt57VC (fun o => (relsE 71).post l o) l)) := by kernel_rfl
theorem pt1_cond : Can.condT (canPt 1) Try.prog X2 tabU relsE 59 20 = inp 1 0 255 (fun l => rngs 0 255 l ((relsE 71).pre l → byteK (nth 0 l 0) 0 ((relsE 71).post l (c0 ++ eOne ++ c0)) False)) := by kernel_rfl
theorem pt57_con : ConOk Try.prog relsE 59 (canPt 57).con := con_of_can (can_of_condT hX2 hm2 (tab := tabU) tabE_ok 20 (by decide) (by
  rw [pt57_cond]
  refine inp_of _ _ _ _ fun l hl => rngs_of _ _ fun hb hp => ?_
  obtain ⟨P, hP⟩ : ∃ P, EncB l P := hp
  have hP0 := hP
  match P, hP with
  | none, h =>
    have : l = [0] := h
    subst this
    exact absurd hl (by decide)
  | some (x, y), ⟨_, hr, h4, vx, vy, ex, ey, hon⟩ =>
    have e4 : nth 0 l 0 = 4 := by
      match l, hl with
      | a :: l, _ => simpa [nth] using h4
    refine byteK_of (fun _ => ?_) fun k => (k e4).elim
    have rx : rng 256 (cX l) := rng_take _ (rng_drop _ hr)
    have ry : rng 256 (cY l) := rng_drop _ hr
    refine setU_of rx (by simp [cX, hl]) (fun k => (k vx).elim) fun _ a ha => setU_of ry (by simp [cY, hl]) (fun k => (k vy).elim) fun _ b hb' => ?_
    rw [ex] at ha
    rw [ey] at hb'
    refine check_of ha hb' (fun _ => ?_) fun k => (k hon).elim
    obtain ⟨h1, h2⟩ := tri_of ha hb' eltOne
    refine ⟨h1, fun P' hP' => ?_⟩
    rw [hP'.uniq hP0, h2]
    exact ⟨fun k => one_ne k.symm, by show x = x * 1; grind, by show y = y * 1; grind, hon⟩))
theorem pt1_con : ConOk Try.prog relsE 59 (canPt 1).con := con_of_can (can_of_condT hX2 hm2 (tab := tabU) tabE_ok 20 (by decide) (by
  rw [pt1_cond]
  refine inp_of _ _ _ _ fun l hl => rngs_of _ _ fun hb hp => ?_
  obtain ⟨P, hP⟩ : ∃ P, EncB l P := hp
  have hP0 := hP
  match P, hP with
  | some (x, y), h => exact absurd h.1 (by rw [hl]; decide)
  | none, h =>
    have e : l = [0] := h
    subst e
    refine byteK_of (fun _ => ?_) fun k => (k rfl).elim
    obtain ⟨h1, h2⟩ := tri_of elt0 eltOne elt0
    refine ⟨h1, fun P' hP' => ?_⟩
    rw [hP'.uniq hP0, h2]
    exact ⟨rfl, rfl, fun k => one_ne k.symm⟩))

def outVC (A : Prop) (Q : List Int → Prop) (l : List Int) : Prop :=
  callU 14 1 (el4 l 2) (one1 fun r => byteK r 1 A (callU 17 4 (el4 l 2) fun i => callU 6 4 (el4 l 0 ++ i) fun x => callU 6 4 (el4 l 1 ++ i) fun y => callU 68 28 x fun X => callU 68 28 y fun Y => Q (4 :: (X ++ Y))))
theorem outFar_cond : Can.condT canOutFar Try.prog X2 tabU relsE 63 20 = inp 12 0 18446744073709551615 (fun l => rngs 0 18446744073709551615 l ((relsE 73).pre l → outVC ((relsE 73).post l [0]) (fun _ => False) l)) := by kernel_rfl
theorem outFin_cond : Can.condT canOutFin Try.prog X2 tabU relsE 63 20 = inp 12 0 18446744073709551615 (fun l => rngs 0 18446744073709551615 l ((relsE 74).pre l → outVC False (fun o => (relsE 74).post l o) l)) := by kernel_rfl
theorem isZ_of {e : List Int} {A B : Prop} (ho : ok64 e) (h1 : dec64 e = 0 → A) (h0 : dec64 e ≠ 0 → B) : callU 14 1 e (one1 fun r => byteK r 1 A B) := by
  refine callU_of ho fun o lo hp => ?_
  have hp' : isB o (dec64 e = 0) := hp
  match o, lo with
  | [r], _ =>
    by_cases h : dec64 e = 0
    · have e1 : r = 1 := hp'.1 h
      exact byteK_of (fun _ => h1 h) fun k => (k e1).elim
    · have e0 : r = 0 := hp'.2 h
      exact byteK_of (fun k => by rw [e0] at k; exact absurd k (by decide)) fun _ => h0 h
theorem callU_2 (id : Nat) (f : F → F → F) (e : relsU id = op2 f) {a b : List Int} {x y : F} {K : List Int → Prop} (ha : Elt a x) (hb : Elt b y) (h : ∀ o, Elt o (f x y) → K o) : callU id 4 (a ++ b) K := by
  unfold callU
  rw [e]
  refine ⟨⟨by rw [take_app ha.len]; exact ha.ok, by rw [drop_app ha.len]; exact hb.ok⟩, alln_len 4 fun o hl hp => h o ⟨hl, hp.1, ?_⟩⟩
  have := hp.2
  rw [take_app ha.len, drop_app ha.len, ha.dec, hb.dec] at this
  exact this
theorem callU_inv {a : List Int} {x : F} {K : List Int → Prop} (ha : Elt a x) (h : ∀ o, Elt o (iv x) → K o) : callU 17 4 a K :=
  callU_of (show ok64 a from ha.ok) fun o hl hp => h o ⟨hl, hp.1, by rw [← ha.dec]; exact hp.2⟩
theorem callU_get {a : List Int} {x : F} {K : List Int → Prop} (ha : Elt a x) (h : ∀ o : List Int, o.length = 28 → rng 256 o → valB o < pI → tF (valB o) = x → K o) : callU 68 28 a K :=
  callU_of (show ok64 a from ha.ok) fun o hl hp => by
    obtain ⟨h1, h2, h3⟩ : rng 256 o ∧ valB o < pI ∧ tF (valB o) = dec64 a := hp
    exact h o hl h1 h2 (by rw [h3, ha.dec])
theorem outFar_con : ConOk Try.prog relsE 63 canOutFar.con := con_of_can (can_of_condT hX2 hm2 (tab := tabU) tabE_ok 20 (by decide) (by
  rw [outFar_cond]
  refine inp_of _ _ _ _ fun l hl => rngs_of _ _ fun hb hp => ?_
  obtain ⟨ho, _, hz⟩ : ok3 l 0 ∧ (∃ P, Rep bF (tri3 l 0) P) ∧ dec64 (el4 l 2) = 0 := hp
  refine isZ_of ho.2.2 (fun _ => fun P hP => ?_) fun k => (k hz).elim
  match P, hP with
  | none, _ => exact rfl
  | some (x, y), hP => exact (hP.1 hz).elim))
theorem outFin_con : ConOk Try.prog relsE 63 canOutFin.con := con_of_can (can_of_condT hX2 hm2 (tab := tabU) tabE_ok 20 (by decide) (by
  rw [outFin_cond]
  refine inp_of _ _ _ _ fun l hl => rngs_of _ _ fun hb hp => ?_
  obtain ⟨ho, _, hz⟩ : ok3 l 0 ∧ (∃ P, Rep bF (tri3 l 0) P) ∧ dec64 (el4 l 2) ≠ 0 := hp
  have hx : Elt (el4 l 0) _ := elt_of (by omega) ho.1
  have hy : Elt (el4 l 1) _ := elt_of (by omega) ho.2.1
  have hzz : Elt (el4 l 2) _ := elt_of (by omega) ho.2.2
  refine isZ_of ho.2.2 (fun k => (hz k).elim) fun _ => callU_inv hzz fun i hi => callU_2 6 (fun a b => a * b) rfl hx hi fun a ha => callU_2 6 (fun a b => a * b) rfl hy hi fun b hb' => callU_get ha fun X lX rX vX eX => callU_get hb' fun Y lY rY vY eY => ?_
  show ∀ P, Rep bF (tri3 l 0) P → EncB (4 :: (X ++ Y)) P
  intro P hP
  match P, hP with
  | none, hP => exact (hz hP.2.1).elim
  | some (x, y), hP =>
    obtain ⟨_, h2, h3, h4⟩ := hP
    have q1 : cX (4 :: (X ++ Y)) = X := by simp only [cX, List.drop_succ_cons, List.drop_zero]; exact take_app lX
    have q2 : cY (4 :: (X ++ Y)) = Y := by simp only [cY, List.drop_succ_cons]; exact drop_app lX
    have i1 : dec64 (el4 l 0) * iv (dec64 (el4 l 2)) = x := by
      refine eq_of_mul good hz ?_
      rw [inv_mul_eq good hz]
      exact h2
    have i2 : dec64 (el4 l 1) * iv (dec64 (el4 l 2)) = y := by
      refine eq_of_mul good hz ?_
      rw [inv_mul_eq good hz]
      exact h3
    refine ⟨by simp [lX, lY], ⟨by decide, by decide, rng_append rX rY⟩, rfl, ?_, ?_, ?_, ?_, h4⟩
    · rw [q1]; exact vX
    · rw [q2]; exact vY
    · rw [q1, eX]; exact i1
    · rw [q2, eY]; exact i2))
/-- With these. -/
def tabIO : List (FuncId × Con) := [(59, (canPt 57).con), (59, (canPt 1).con), (63, canOutFar.askc 72), (63, canOutFar.con), (63, canOutFin.con)]
def tabE : List (FuncId × Con) := tabIO ++ tabU
theorem tabIO_ok : ∀ f con, (f, con) ∈ tabIO → ConOk Try.prog relsE f con :=
  tabCons pt57_con (tabCons pt1_con (tabCons (ask_ok (askB fun i => dec64 (el4 i 2) = 0)) (tabCons outFar_con (tabCons outFin_con (fun f con h => by cases h)))))
theorem tabEE_ok : ∀ f con, (f, con) ∈ tabE → ConOk Try.prog relsE f con := tabApp tabIO_ok tabE_ok
end Go.Sx
