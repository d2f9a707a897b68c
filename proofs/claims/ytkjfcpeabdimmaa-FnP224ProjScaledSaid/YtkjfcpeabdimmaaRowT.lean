/- Three coordinates read into a point, and told: contracts. -/
import Derived.Test.YtkjfcpeabdimmaaRowU
import Derived.Test.YtkjfcpeabdimmaaRow3
set_option linter.unusedVariables false
set_option linter.unusedSimpArgs false
set_option linter.constructorNameAsVariable false
set_option maxRecDepth 100000
set_option maxHeartbeats 4000000
namespace Go.Sx
open Go.Proofs Go.FP Go.EC
def relProj : RelSpec := { pre := inP, post := fun i o => ok3 o 0 ∧ tri3 o 0 = triB i }
def relProjBad : RelSpec := { pre := fun i => ¬ inP i, post := fun _ _ => True }
def relTell : RelSpec := { pre := fun i => ok3 i 0, post := fun i o => rng 256 o ∧ inP o ∧ triB o = tri3 i 0 }
/-- 95, 96: three coordinates read; 97: told. -/
def relsV (n : Nat) : RelSpec := if n = 95 then relProj else if n = 96 then relProjBad else if n = 97 then relTell else relsU n
theorem relsV_U {n : Nat} (h : n < 95) : relsV n = relsU n := by
  unfold relsV
  rw [if_neg (by omega), if_neg (by omega), if_neg (by omega)]
theorem tabUV_ok : ∀ f con, (f, con) ∈ tabU → ConOk Try.prog relsV f con := by
  intro f con hm
  have h0 : (tabU.all fun x => decide (x.2.id < 95)) = true := by decide
  exact (tabU_ok f con hm).lift (relsV_U (by simpa using List.all_eq_true.1 h0 _ hm))
def ptNew (r : Nat) : List Sc := [.ptr (r + 1) 0, .ptr (r + 2) 0, .ptr (r + 3) 0]
def canProj : Can := { id := 95, kinds := ks .u8 84, args := [agg3], hp := [], outs := ks .u64 12, res := .tup [.s (.ptr 0 0), .s (.bool true)], hpE := [], new := [ptNew 0, vs .u64 84 4, vs .u64 88 4, vs .u64 92 4] }
def canProjBad : Can := { id := 96, kinds := ks .u8 84, args := [agg3], hp := [], outs := [], res := .tup [.s (.ptr 0 0), .s (.bool false)], hpE := [], new := [ptNew 0, us 4, us 4, us 4] }
def canTell : Can := { id := 97, kinds := ks .u64 12, args := [pt 0], hp := [sp 1, ro (vs .u64 0 4), ro (vs .u64 4 4), ro (vs .u64 8 4)], outs := ks .u8 84, res := .one (.g (vs .u8 12 84)), hpE := [(sp 1).cs, vs .u64 0 4, vs .u64 4 4, vs .u64 8 4], new := [] }
def projU (l : List Int) (bad : Prop) (K : List Int → Prop) : Prop :=
  setU (bX l) bad fun ex => setU (bY l) bad fun ey => setU (bZ l) bad fun ez => K (ex ++ ey ++ ez)
theorem projU_of {l : List Int} {bad : Prop} {K : List Int → Prop} (hr : rng 256 l) (hl : l.length = 84) (hbad : ¬ inP l → bad) (h : inP l → ∀ e : List Int, e.length = 12 → ok3 e 0 → tri3 e 0 = triB l → K e) : projU l bad K := by
  have rX : rng 256 (bX l) := rng_take _ hr
  have rY : rng 256 (bY l) := rng_take _ (rng_drop _ hr)
  have rZ : rng 256 (bZ l) := rng_drop _ hr
  have lX : (bX l).length = 28 := by simp [bX, hl]
  have lY : (bY l).length = 28 := by simp [bY, hl]
  have lZ : (bZ l).length = 28 := by simp [bZ, hl]
  refine setU_of rX lX (fun k => hbad fun i => k i.1) fun ix ex kx => setU_of rY lY (fun k => hbad fun i => k i.2.1) fun iy ey ky => setU_of rZ lZ (fun k => hbad fun i => k i.2.2) fun iz ez kz => ?_
  obtain ⟨h1, h2⟩ := tri_of kx ky kz
  exact h ⟨ix, iy, iz⟩ _ (by simp [kx.len, ky.len, kz.len]) h1 h2
def tellU (e : List Int) (K : List Int → Prop) : Prop := callU 68 28 (el4 e 0) fun X => callU 68 28 (el4 e 1) fun Y => callU 68 28 (el4 e 2) fun Z => K (X ++ Y ++ Z)
theorem parts3 {X Y Z : List Int} (lX : X.length = 28) (lY : Y.length = 28) : bX (X ++ Y ++ Z) = X ∧ bY (X ++ Y ++ Z) = Y ∧ bZ (X ++ Y ++ Z) = Z := by
  refine ⟨?_, ?_, ?_⟩
  · unfold bX; rw [List.append_assoc, take_app lX]
  · unfold bY; rw [List.append_assoc, drop_app lX, take_app lY]
  · unfold bZ; exact drop_app (by simp [lX, lY])
theorem tellU_of {e : List Int} {K : List Int → Prop} (ho : ok3 e 0) (h : ∀ g : List Int, g.length = 84 → rng 256 g → inP g → triB g = tri3 e 0 → K g) : tellU e K := by
  have get : ∀ {a : List Int} {K : List Int → Prop}, ok64 a → (∀ o : List Int, o.length = 28 → rng 256 o → valB o < pI → tF (valB o) = dec64 a → K o) → callU 68 28 a K := fun {a K} ha h =>
    callU_of (show ok64 a from ha) fun o hl hp => by
      obtain ⟨h1, h2, h3⟩ : rng 256 o ∧ valB o < pI ∧ tF (valB o) = dec64 a := hp
      exact h o hl h1 h2 h3
  refine get ho.1 fun X lX rX vX eX => get ho.2.1 fun Y lY rY vY eY => get ho.2.2 fun Z lZ rZ vZ eZ => ?_
  obtain ⟨h1, h2, h3⟩ := parts3 (Z := Z) lX lY
  refine h _ (by simp [lX, lY, lZ]) (rng_append (rng_append rX rY) rZ) ?_ ?_
  · unfold inP
    rw [h1, h2, h3]
    exact ⟨vX, vY, vZ⟩
  · simp only [triB, tri3, hX, hY, hZ, h1, h2, h3, eX, eY, eZ]
theorem proj_cond : Can.condT canProj Try.prog X2 tabU relsV 43 20 = inp 84 0 255 (fun l => rngs 0 255 l ((relsV 95).pre l → projU l False fun e => (relsV 95).post l e)) := by kernel_rfl
theorem projBad_cond : Can.condT canProjBad Try.prog X2 tabU relsV 43 20 = inp 84 0 255 (fun l => rngs 0 255 l ((relsV 96).pre l → projU l ((relsV 96).post l []) fun e => False)) := by kernel_rfl
theorem tell_cond : Can.condT canTell Try.prog X2 tabU relsV 44 20 = inp 12 0 18446744073709551615 (fun l => rngs 0 18446744073709551615 l ((relsV 97).pre l → tellU l fun g => (relsV 97).post l g)) := by kernel_rfl
theorem proj_con : ConOk Try.prog relsV 43 canProj.con := con_of_can (can_of_condT hX2 hm2 (tab := tabU) tabUV_ok 20 (by decide) (by
  rw [proj_cond]
  exact inp_of _ _ _ _ fun l hl => rngs_of _ _ fun hb hp => projU_of (rng_of_mem (b := 256) l hb) hl (fun k => k hp) fun _ e _ oe te => ⟨oe, te⟩))
theorem projBad_con : ConOk Try.prog relsV 43 canProjBad.con := con_of_can (can_of_condT hX2 hm2 (tab := tabU) tabUV_ok 20 (by decide) (by
  rw [projBad_cond]
  exact inp_of _ _ _ _ fun l hl => rngs_of _ _ fun hb hp => projU_of (rng_of_mem (b := 256) l hb) hl (fun _ => trivial) fun i => (hp i).elim))
theorem tell_con : ConOk Try.prog relsV 44 canTell.con := con_of_can (can_of_condT hX2 hm2 (tab := tabU) tabUV_ok 20 (by decide) (by
  rw [tell_cond]
  exact inp_of _ _ _ _ fun l hl => rngs_of _ _ fun hb hp => tellU_of hp fun g _ rg ig tg => ⟨rg, ig, tg⟩))
def tabPr : List (FuncId × Con) := [(43, canProjBad.askc 65), (43, canProjBad.con), (43, canProj.con), (44, canTell.con)]
def tabV : List (FuncId × Con) := tabPr ++ tabU
theorem tabV_ok : ∀ f con, (f, con) ∈ tabV → ConOk Try.prog relsV f con := tabApp (tabCons (ask_ok (askB fun i => ¬ inP i)) (tabCons projBad_con (tabCons proj_con (tabCons tell_con (fun f con h => by cases h))))) tabUV_ok
def callV (id n : Nat) (i : List Int) (K : List Int → Prop) : Prop := (relsV id).pre i ∧ alln n fun o => (relsV id).post i o → K o
theorem callV_of {id n : Nat} {i : List Int} {K : List Int → Prop} (hp : (relsV id).pre i) (h : ∀ o : List Int, o.length = n → (relsV id).post i o → K o) : callV id n i K := ⟨hp, alln_len n h⟩
/-- Three coordinates read, by whether they can be. -/
def projV (l : List Int) (bad : Prop) (K : List Int → Prop) : Prop := callT3 65 1 l (one1 fun b => (b ≠ 0 → callV 96 0 l fun _ => bad) ∧ (b = 0 → callV 95 12 l K))
theorem projV_of {l : List Int} {bad : Prop} {K : List Int → Prop} (hin : inP l) (h : ∀ e : List Int, e.length = 12 → ok3 e 0 → tri3 e 0 = triB l → K e) : projV l bad K :=
  ask_of (q := fun i => ¬ inP i) rfl (fun k => (k hin).elim) fun _ => callV_of hin fun e le he => h e le he.1 he.2
end Go.Sx
