/- Row FnP224ProjKept at the point infinitely far, and at what is no point. -/
import Derived.Test.YtkjfcpeabdimmaaRow1Fin
import Derived.Test.YtkjfcpeabdimmaaS2AffFar
set_option linter.unusedVariables false
set_option linter.unusedSimpArgs false
set_option linter.constructorNameAsVariable false
set_option maxRecDepth 100000
set_option maxHeartbeats 4000000
namespace Go.Sx
open Go.Proofs Go.FP Go.EC
def row1I (P : List Int → Prop) (l : List Int) : Prop :=
  callA 61 1 l (one1 fun r => ∀ s : Int, s = (if r = 0 then 1 else 0) → (s ≠ 0 → P [1]) ∧ (s = 0 → keptVC P l fun l' => callA 61 1 l' (one1 fun r' => (r' ≠ 0 → P [1]) ∧ (r' = 0 → P [0]))))
theorem tabW_ok {can : Can} (h : ConOk Try.prog relsA 14 can.con) (hi : can.con.id = 61 ∨ can.con.id = 62) : ∀ f con, (f, con) ∈ (14, can.con) :: tabAll → ConOk Try.prog relsW f con := by
  intro f con hm
  rcases List.mem_cons.1 hm with e | e
  · cases e
    refine h.lift ?_
    rcases hi with e | e <;> (rw [e]; rfl)
  · exact tabFin_ok f con (List.mem_cons_of_mem _ e)
theorem row1I_cond : Can.condT (canRowW 92) Try.prog X2 tFar relsW 3 20 = inp 84 0 255 (fun l => rngs 0 255 l ((relsW 92).pre l → row1I (fun o => (relsW 92).post l o) l)) := by kernel_rfl
theorem row1B_cond : Can.condT (canRowW 93) Try.prog X2 tBad relsW 3 20 = inp 84 0 255 (fun l => rngs 0 255 l ((relsW 93).pre l → callA 62 0 l fun _ => (relsW 93).post l [1])) := by kernel_rfl
theorem row1I_ok : CanOk Try.prog relsW 3 (canRowW 92) := can_of_condT hX2 hm2 (tab := tFar) (tabW_ok far_con (.inl rfl)) 20 (by decide) (by
  rw [row1I_cond]
  refine inp_of _ _ _ _ fun l hl => rngs_of _ _ fun hb hp => ?_
  have hp' : inP l ∧ hZ l = 0 := hp
  have hr := rng_of_mem (b := 256) l hb
  refine callA_of hp' fun o lo ho => ?_
  match o, lo with
  | [r], _ =>
    have ho' : isB [r] (hX l = 0 ∧ hY l ≠ 0) := ho
    intro s es
    refine ⟨fun _ => (by decide : (1 : Int) ≠ 0), fun hs => kept_of hr hl hp'.1 ?_⟩
    have hon : hX l = 0 ∧ hY l ≠ 0 := by
      apply Classical.byContradiction
      intro k
      rw [if_pos (ho'.2 k)] at es
      rw [hs] at es
      exact absurd es (by decide)
    refine callA_of hp' fun o2 lo2 ho2 => ?_
    match o2, lo2 with
    | [r2], _ =>
      have ho2' : isB [r2] (hX l = 0 ∧ hY l ≠ 0) := ho2
      have h1 := ho2'.1 hon
      exact ⟨fun _ => (by decide : (1 : Int) ≠ 0), fun k => by rw [h1] at k; exact absurd k (by decide)⟩)
theorem row1B_ok : CanOk Try.prog relsW 3 (canRowW 93) := can_of_condT hX2 hm2 (tab := tBad) (tabW_ok bad_con (.inr rfl)) 20 (by decide) (by
  rw [row1B_cond]
  refine inp_of _ _ _ _ fun l hl => rngs_of _ _ fun hb hp => ?_
  exact callA_of hp fun o lo ho => (by decide : (1 : Int) ≠ 0))
end Go.Sx
