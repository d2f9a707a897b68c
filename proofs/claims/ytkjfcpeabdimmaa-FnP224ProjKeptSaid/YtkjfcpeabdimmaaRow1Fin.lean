/- Row FnP224ProjKept at three coordinates of a finite point, or of none over that third coordinate. -/
import Derived.Test.YtkjfcpeabdimmaaRowPiece
import Derived.Test.YtkjfcpeabdimmaaRowRel
set_option linter.unusedVariables false
set_option linter.unusedSimpArgs false
set_option linter.constructorNameAsVariable false
set_option maxRecDepth 100000
set_option maxHeartbeats 4000000
namespace Go.Sx
open Go.Proofs Go.FP Go.EC

def callA (id n : Nat) (i : List Int) (K : List Int → Prop) : Prop := (relsA id).pre i ∧ alln n fun o => (relsA id).post i o → K o
theorem callA_of {id n : Nat} {i : List Int} {K : List Int → Prop} (hp : (relsA id).pre i) (h : ∀ o : List Int, o.length = n → (relsA id).post i o → K o) : callA id n i K := ⟨hp, alln_len n h⟩
def sameXY (o' o : List Int) (P : List Int → Prop) : Prop := callK 22 1 (o'.take 7 ++ o.take 7) (one1 fun s => (s ≠ 0 → callK 22 1 ((o'.drop 7).take 7 ++ (o.drop 7).take 7) (one1 fun t => P [t])) ∧ (s = 0 → P [0]))
def keptVC (P : List Int → Prop) (l : List Int) (K : List Int → Prop) : Prop :=
  setVC (bX l) (P [0]) fun ex => setVC (bY l) (P [0]) fun ey => setVC (bZ l) (P [0]) fun ez => getVC ex fun X => getVC ey fun Y => getVC ez fun Z => K (X ++ Y ++ Z)
def row1F (P : List Int → Prop) (l : List Int) : Prop :=
  callA 60 15 l fun o => ∀ s : Int, s = (if o.getD 14 0 = 0 then 1 else 0) → (s ≠ 0 → P [1]) ∧ (s = 0 → keptVC P l fun l' => callA 60 15 l' fun o' =>
    (o'.getD 14 0 ≠ 0 → sameXY o' o P) ∧ (o'.getD 14 0 = 0 → P [0]))

theorem tabFin_ok : ∀ f con, (f, con) ∈ tFin → ConOk Try.prog relsW f con := by
  intro f con hm
  rcases List.mem_cons.1 hm with e | e
  · cases e
    exact fin_con.lift rfl
  · refine (tabAllA f con e).lift ?_
    have h0 : (tabAll.all fun x => x.2.id != 91 && x.2.id != 92 && x.2.id != 93) = true := by decide
    have := List.all_eq_true.1 h0 _ e
    simp only [Bool.and_eq_true, bne_iff_ne, ne_eq] at this
    simp only [relsW, this.1.1, this.1.2, this.2, if_false]

theorem parts (l : List Int) : bX l ++ bY l ++ bZ l = l := by
  unfold bX bY bZ
  rw [List.append_assoc, show l.drop 56 = (l.drop 28).drop 28 by simp, List.take_append_drop, List.take_append_drop]
theorem kept_of {P : List Int → Prop} {l : List Int} {K : List Int → Prop} (hr : rng 256 l) (hl : l.length = 84) (hin : inP l) (h : K l) : keptVC P l K := by
  have rX : rng 256 (bX l) := rng_take _ hr
  have rY : rng 256 (bY l) := rng_take _ (rng_drop _ hr)
  have rZ : rng 256 (bZ l) := rng_drop _ hr
  have lX : (bX l).length = 28 := by simp [bX, hl]
  have lY : (bY l).length = 28 := by simp [bY, hl]
  have lZ : (bZ l).length = 28 := by simp [bZ, hl]
  refine set_of rX lX (fun k => (k hin.1).elim) fun _ ex _ ox dx => set_of rY lY (fun k => (k hin.2.1).elim) fun _ ey _ oy dy => set_of rZ lZ (fun k => (k hin.2.2).elim) fun _ ez _ oz dz =>
    get_of ox fun X hX rX' vX eX => get_of oy fun Y hY rY' vY eY => get_of oz fun Z hZ rZ' vZ eZ => ?_
  have e1 := bytes_eq rX' rX (by omega) vX hin.1 (eX.trans dx)
  have e2 := bytes_eq rY' rY (by omega) vY hin.2.1 (eY.trans dy)
  have e3 := bytes_eq rZ' rZ (by omega) vZ hin.2.2 (eZ.trans dz)
  rw [e1, e2, e3, parts]
  exact h

theorem getD14 {o : List Int} (hl : o.length = 15) : o.drop 14 = [o.getD 14 0] := by
  apply List.ext_getElem?
  intro i
  cases i with
  | zero => simp [List.getD, hl]
  | succ i => simp [hl]

theorem row1F_cond : Can.condT (canRowW 91) Try.prog X2 tFin relsW 3 20 = inp 84 0 255 (fun l => rngs 0 255 l ((relsW 91).pre l → row1F (fun o => (relsW 91).post l o) l)) := by kernel_rfl

theorem row1F_ok : CanOk Try.prog relsW 3 (canRowW 91) := can_of_condT hX2 hm2 (tab := tFin) tabFin_ok 20 (by decide) (by
  rw [row1F_cond]
  refine inp_of _ _ _ _ fun l hl => rngs_of _ _ fun hb hp => ?_
  have hp' : inP l ∧ hZ l ≠ 0 := hp
  have hr := rng_of_mem (b := 256) l hb
  refine callA_of hp' fun o lo ho => ?_
  obtain ⟨oX, oY, dX, dY, hb⟩ : postFin l o := ho
  rw [getD14 lo] at hb
  intro s es
  refine ⟨fun _ => (by decide : (1 : Int) ≠ 0), fun hs => kept_of hr hl hp'.1 ?_⟩
  have hon : onC (hX l * iv (hZ l)) (hY l * iv (hZ l)) := by
    apply Classical.byContradiction
    intro k
    rw [if_pos (hb.2 k)] at es
    rw [hs] at es
    exact absurd es (by decide)
  refine callA_of hp' fun o' lo' ho' => ?_
  obtain ⟨oX', oY', dX', dY', hb'⟩ : postFin l o' := ho'
  rw [getD14 lo'] at hb'
  have h1 := hb'.1 hon
  refine ⟨fun _ => ?_, fun k => by rw [h1] at k; exact absurd k (by decide)⟩
  have e1 : o'.take 7 = o.take 7 := dec32_inj oX' oX (by simp [lo, lo']) (by rw [dX', dX])
  have e2 : (o'.drop 7).take 7 = (o.drop 7).take 7 := dec32_inj oY' oY (by simp [lo, lo']) (by rw [dY', dY])
  refine call_same (by simp [lo']) (fun _ => ⟨fun _ => ?_, fun k => absurd k (by decide)⟩) (fun k => (k e1).elim)
  exact call_same (by simp [lo']) (fun _ => (by decide : (1 : Int) ≠ 0)) (fun k => (k e2).elim))
end Go.Sx
