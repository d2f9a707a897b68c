/- The reference's reading of 57 bytes, by whether they are a point. -/
import Derived.Test.YtkjfcpeabdimmaaPtSum
set_option linter.unusedVariables false
set_option linter.unusedSimpArgs false
set_option linter.constructorNameAsVariable false
set_option maxRecDepth 100000
set_option maxHeartbeats 4000000
namespace Go.Sx
open Go.Proofs Go.FP Go.EC
def isEnc (i : List Int) : Prop := ∃ P, EncB i P
def relRdOk : RelSpec := { pre := isEnc, post := fun i o => nth 0 o 14 = 1 ∧ ∀ x y, EncB i (some (x, y)) → W32 (o.take 7) x ∧ W32 ((o.drop 7).take 7) y }
def relRdNo : RelSpec := { pre := fun i => ¬ isEnc i ∧ nth 0 i 0 = 4, post := fun i o => nth 0 o 14 = 0 }
def relRdBad : RelSpec := { pre := fun i => ¬ isEnc i ∧ nth 0 i 0 ≠ 4, post := fun i o => True }
def relAskFour : RelSpec := { pre := fun _ => True, post := fun i o => isB o (nth 0 i 0 = 4) }
def relAskEnc : RelSpec := { pre := fun _ => True, post := fun i o => isB o (isEnc i) }
/-- 86: are they a point; 89: is the first byte the right one; 87, 88, 93: the reading. -/
def relsD (n : Nat) : RelSpec := if n = 86 then relAskEnc else if n = 87 then relRdOk else if n = 88 then relRdBad else if n = 89 then relAskFour else if n = 93 then relRdNo else relsS n
theorem relsD_S {n : Nat} (h : n < 86 ∨ n = 90) : relsD n = relsS n := by
  unfold relsD
  rw [if_neg (by omega), if_neg (by omega), if_neg (by omega), if_neg (by omega), if_neg (by omega)]
theorem tabSD_ok : ∀ f con, (f, con) ∈ tabSm → ConOk Try.prog relsD f con := by
  intro f con hm
  have h0 : (tabSm.all fun x => decide (x.2.id < 86 ∨ x.2.id = 90)) = true := by decide
  exact (tabSm_ok f con hm).lift (relsD_S (by simpa using List.all_eq_true.1 h0 _ hm))
def canRdOk : Can := { id := 87, kinds := ks .u8 57, args := [crv, .one (.s (.sliceU 1 0 57))], hp := [ro fold4, ro (vs .u8 0 57)], outs := ks .i64 14 ++ [.u8], res := .tup [.g [.bool false, .slice 2 0 7 7, .slice 3 0 7 7], .s (.boolv 71)], hpE := [fold4, vs .u8 0 57], new := [vs .i64 57 7, vs .i64 64 7] }
def canRdNo : Can := { id := 93, kinds := ks .u8 57, args := [crv, .one (.s (.sliceU 1 0 57))], hp := [ro fold4, ro (vs .u8 0 57)], outs := ks .i64 14 ++ [.u8], res := .tup [.g [.bool false, .slice 2 0 7 7, .slice 3 0 7 7], .s (.boolv 71)], hpE := [fold4, vs .u8 0 57], new := [vs .i64 57 7, vs .i64 64 7] }
def canRdBad : Can := { id := 88, kinds := ks .u8 57, args := [crv, .one (.s (.sliceU 1 0 57))], hp := [ro fold4, ro (vs .u8 0 57)], outs := [], res := .tup [.g [.bool false, .nils, .nils], .s (.bool false)], hpE := [fold4, vs .u8 0 57], new := [] }
/-- Is the number another one? -/
def neqK (x n : Int) (A B : Prop) : Prop := ∀ r : Int, r = (if cmpFn .neq x n = true then 1 else 0) → (r ≠ 0 → A) ∧ (r = 0 → B)
theorem neqK_of {x n : Int} {A B : Prop} (h0 : x ≠ n → A) (h1 : x = n → B) : neqK x n A B := by
  intro r er
  have hr := cmp_ite er
  refine ⟨fun h => h0 ?_, fun h => h1 (Classical.not_not.1 fun e => ?_)⟩
  · have := hr.1 h
    simpa [cmpFn] using this
  · exact hr.2 (by simpa [cmpFn] using e) h
def rdVC (l : List Int) (no : Prop) (no2 : List Int → List Int → Prop) (yes : List Int → List Int → Int → Prop) : Prop :=
  neqK (nth 0 l 0) 4 no
    ((callK 20 7 (cX l) fun x => callK 20 7 (cY l) fun y => belowK x (belowK y (onVC x y (yes x y)) (no2 x y)) (no2 x y)) ∧
      callK 20 7 (cX l) fun x => (callK 20 7 (cY l) fun y => belowK x (belowK y (onVC x y (yes x y)) (no2 x y)) (no2 x y)) ∧ (callK 20 7 (cY l) fun y => belowK x (belowK y (onVC x y (yes x y)) (no2 x y)) (no2 x y)))
theorem rdOk_cond : Can.condT canRdOk Try.prog X2 tabSm relsD 32 20 = inp 57 0 255 (fun l => rngs 0 255 l ((relsD 87).pre l → rdVC l False (fun x y => (relsD 87).post l (x ++ y ++ [0])) (fun x y r => (relsD 87).post l (x ++ y ++ [r])))) := by kernel_rfl
theorem rdNo_cond : Can.condT canRdNo Try.prog X2 tabSm relsD 32 20 = inp 57 0 255 (fun l => rngs 0 255 l ((relsD 93).pre l → rdVC l False (fun x y => (relsD 93).post l (x ++ y ++ [0])) (fun x y r => (relsD 93).post l (x ++ y ++ [r])))) := by kernel_rfl
theorem rdBad_cond : Can.condT canRdBad Try.prog X2 tabSm relsD 32 20 = inp 57 0 255 (fun l => rngs 0 255 l ((relsD 88).pre l → rdVC l ((relsD 88).post l []) (fun x y => False) (fun x y r => False))) := by kernel_rfl
theorem rdVC_of {l : List Int} {no : Prop} {no2 : List Int → List Int → Prop} {yes : List Int → List Int → Int → Prop} (hr : rng 256 l) (hl : l.length = 57)
    (h0 : ¬ isEnc l → (nth 0 l 0 ≠ 4 → no) ∧ (nth 0 l 0 = 4 → (∀ X Y : List Int, X.length = 7 → Y.length = 7 → no2 X Y) ∧ ∀ X Y : List Int, X.length = 7 → Y.length = 7 → yes X Y 0)) (h1 : ∀ x y, EncB l (some (x, y)) → ∀ X Y, W32 X x → W32 Y y → yes X Y 1) : rdVC l no no2 yes := by
  have e4 : l.take 1 = [nth 0 l 0] := by
    match l, hl with
    | a :: l, _ => rfl
  have not1 : ∀ P, EncB l P → P ≠ none := fun P h k => by
    subst k
    have : l = [0] := h
    subst this
    exact absurd hl (by decide)
  refine neqK_of (fun h => (h0 fun ⟨P, hP⟩ => ?_).1 h) fun h4 => ?_
  · match P, hP with
    | none, hP => exact not1 _ hP rfl
    | some (x, y), hP =>
      have := hP.2.2.1
      rw [e4] at this
      exact h (by simpa using this)
  · have rest : ∀ X Y : List Int, X.length = 7 → Y.length = 7 → r32 X → r32 Y → val32 X = valB (cX l) → val32 Y = valB (cY l) → belowK X (belowK Y (onVC X Y (yes X Y)) (no2 X Y)) (no2 X Y) := fun X Y lX lY rX rY vX vY => by
      refine belowK_of rX lX (fun bX => belowK_of rY lY (fun bY => ?_) fun k => ((h0 fun ⟨P, hP⟩ => ?_).2 h4).1 X Y lX lY) fun k => ((h0 fun ⟨P, hP⟩ => ?_).2 h4).1 X Y lX lY
      · have wX : W32 X (tF (valB (cX l))) := ⟨lX, ⟨rX, bX⟩, by unfold dec32; rw [vX]⟩
        have wY : W32 Y (tF (valB (cY l))) := ⟨lY, ⟨rY, bY⟩, by unfold dec32; rw [vY]⟩
        refine on_of wX.ok wY.ok lX lY (fun hon => ?_) fun hno => ((h0 fun ⟨P, hP⟩ => ?_).2 h4).2 X Y lX lY
        · rw [wX.dec, wY.dec] at hon
          exact h1 _ _ ⟨hl, hr, by rw [e4, h4], by rw [← vX]; exact bX, by rw [← vY]; exact bY, rfl, rfl, hon⟩ X Y wX wY
        · rw [wX.dec, wY.dec] at hno
          match P, hP with
          | none, hP => exact not1 _ hP rfl
          | some (x, y), hP =>
            obtain ⟨_, _, _, _, _, ex, ey, hon⟩ := hP
            rw [← ex, ← ey] at hon
            exact hno hon
      · match P, hP with
        | none, hP => exact not1 _ hP rfl
        | some (x, y), hP => exact k (by rw [vY]; exact hP.2.2.2.2.1)
      · match P, hP with
        | none, hP => exact not1 _ hP rfl
        | some (x, y), hP => exact k (by rw [vX]; exact hP.2.2.2.1)
    exact ⟨call_num fun X lX rX vX => call_num fun Y lY rY vY => rest X Y lX lY rX rY vX vY, call_num fun X lX rX vX => ⟨call_num fun Y lY rY vY => rest X Y lX lY rX rY vX vY, call_num fun Y lY rY vY => rest X Y lX lY rX rY vX vY⟩⟩
theorem rdOk_con : ConOk Try.prog relsD 32 canRdOk.con := con_of_can (can_of_condT hX2 hm2 (tab := tabSm) tabSD_ok 20 (by decide) (by
  rw [rdOk_cond]
  refine inp_of _ _ _ _ fun l hl => rngs_of _ _ fun hb hp => ?_
  refine rdVC_of (rng_of_mem (b := 256) l hb) hl (fun h => (h hp).elim) fun x y hP X Y wX wY => ⟨?_, fun x' y' h' => ?_⟩
  · match X, Y, wX.len, wY.len with
    | [_, _, _, _, _, _, _], [_, _, _, _, _, _, _], _, _ => rfl
  · have e := hP.uniq h'
    obtain ⟨rfl, rfl⟩ : x = x' ∧ y = y' := by
      have := Option.some.inj e
      exact ⟨congrArg Prod.fst this, congrArg Prod.snd this⟩
    rw [List.append_assoc, take_app wX.len, drop_app wX.len, take_app wY.len]
    exact ⟨wX, wY⟩))
theorem at14 {X Y : List Int} (hX : X.length = 7) (hY : Y.length = 7) (r : Int) : nth 0 (X ++ Y ++ [r]) 14 = r := by
  match X, Y, hX, hY with
  | [_, _, _, _, _, _, _], [_, _, _, _, _, _, _], _, _ => rfl
theorem rdNo_con : ConOk Try.prog relsD 32 canRdNo.con := con_of_can (can_of_condT hX2 hm2 (tab := tabSm) tabSD_ok 20 (by decide) (by
  rw [rdNo_cond]
  refine inp_of _ _ _ _ fun l hl => rngs_of _ _ fun hb hp => ?_
  exact rdVC_of (rng_of_mem (b := 256) l hb) hl (fun _ => ⟨fun k => (k hp.2).elim, fun _ => ⟨fun X Y hX hY => at14 hX hY 0, fun X Y hX hY => at14 hX hY 0⟩⟩) fun x y hP => (hp.1 ⟨_, hP⟩).elim))
theorem rdBad_con : ConOk Try.prog relsD 32 canRdBad.con := con_of_can (can_of_condT hX2 hm2 (tab := tabSm) tabSD_ok 20 (by decide) (by
  rw [rdBad_cond]
  refine inp_of _ _ _ _ fun l hl => rngs_of _ _ fun hb hp => ?_
  exact rdVC_of (rng_of_mem (b := 256) l hb) hl (fun _ => ⟨fun _ => trivial, fun k => (hp.2 k).elim⟩) fun x y hP => (hp.1 ⟨_, hP⟩).elim))
def tabRd : List (FuncId × Con) := [(32, canRdOk.askc 86), (32, canRdOk.con), (32, canRdNo.askc 89), (32, canRdNo.con), (32, canRdBad.con)]
def tabD : List (FuncId × Con) := tabRd ++ tabSm
theorem tabD_ok : ∀ f con, (f, con) ∈ tabD → ConOk Try.prog relsD f con := tabApp (tabCons (ask_ok (askB isEnc)) (tabCons rdOk_con (tabCons (ask_ok (askB fun i => nth 0 i 0 = 4)) (tabCons rdNo_con (tabCons rdBad_con (fun f con h => by cases h)))))) tabSD_ok
def callD (id n : Nat) (i : List Int) (K : List Int → Prop) : Prop := (relsD id).pre i ∧ alln n fun o => (relsD id).post i o → K o
theorem callD_of {id n : Nat} {i : List Int} {K : List Int → Prop} (hp : (relsD id).pre i) (h : ∀ o : List Int, o.length = n → (relsD id).post i o → K o) : callD id n i K := ⟨hp, alln_len n h⟩
/-- The reading of m bytes (1 or 57), whether there is a point alone: no; yes. -/
def rdK (m : Nat) (l : List Int) (no yes : Prop) : Prop := match m with
  | 1 => byteK (nth 0 l 0) 0 yes no
  | _ => callD 86 1 l (one1 fun v => (v ≠ 0 → callD 87 15 l fun o => notK (nth 0 o 14) no yes) ∧ (v = 0 → callD 89 1 l (one1 fun f => (f ≠ 0 → callD 93 15 l fun o => notK (nth 0 o 14) no yes) ∧ (f = 0 → callD 88 0 l fun _ => no))))
theorem rdK_of {m : Nat} {l : List Int} {no yes : Prop} (hm : m = 1 ∨ m = 57) (hl : l.length = m) (h1 : isEnc l → yes) (h0 : ¬ isEnc l → no) : rdK m l no yes := by
  rcases hm with rfl | rfl
  · match l, hl with
    | [x], _ =>
      refine byteK_of (fun e => h1 ⟨none, ?_⟩) fun e => h0 fun ⟨P, hP⟩ => ?_
      · have : x = 0 := e
        rw [this]
        exact rfl
      · match P, hP with
        | none, hP =>
          have : [x] = [0] := hP
          have h2 : x = 0 := by simpa using this
          exact e h2
        | some (a, b), hP => exact absurd hP.1 (by simp)
  · refine callD_of trivial fun v lv hv => ?_
    have hv' : isB v (isEnc l) := hv
    match v, lv with
    | [r], _ =>
      by_cases h : isEnc l
      · have e1 : r = 1 := hv'.1 h
        subst e1
        refine ⟨fun _ => callD_of h fun o lo ho => ?_, fun k => absurd k (by decide)⟩
        rw [show nth 0 o 14 = 1 from ho.1]
        exact notK_1 (h1 h)
      · have e0 : r = 0 := hv'.2 h
        subst e0
        refine ⟨fun k => absurd rfl k, fun _ => callD_of trivial fun f lf hf => ?_⟩
        have hf' : isB f (nth 0 l 0 = 4) := hf
        match f, lf with
        | [q], _ =>
          by_cases h4 : nth 0 l 0 = 4
          · have e1 : q = 1 := hf'.1 h4
            subst e1
            refine ⟨fun _ => callD_of ⟨h, h4⟩ fun o lo ho => ?_, fun k => absurd k (by decide)⟩
            rw [show nth 0 o 14 = 0 from ho]
            exact notK_0 (h0 h)
          · have e0 : q = 0 := hf'.2 h4
            subst e0
            exact ⟨fun k => absurd rfl k, fun _ => callD_of ⟨h, h4⟩ fun _ _ _ => h0 h⟩
end Go.Sx
