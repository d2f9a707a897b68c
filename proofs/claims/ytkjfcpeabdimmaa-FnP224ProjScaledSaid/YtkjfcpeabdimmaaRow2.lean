/- Row FnP224ProjScaled: the answer is true. -/
import Derived.Test.YtkjfcpeabdimmaaRowT
set_option linter.unusedVariables false
set_option linter.unusedSimpArgs false
set_option linter.constructorNameAsVariable false
set_option maxRecDepth 100000
set_option maxHeartbeats 4000000
namespace Go.Sx
open Go.Proofs Go.FP Go.EC
def canRow2U : Can := { id := 90, kinds := ks .u8 196, args := [.one (.g (vs .u8 0 84)), .one (.g (vs .u8 84 84)), .one (.g (vs .u8 168 28))], hp := [], outs := [.u8], res := .one (.s (.boolv 196)), hpE := [], new := [] }
theorem affK_any {l : List Int} {bad : Prop} {far : Int → Prop} {fin : List Int → List Int → Int → Prop} (hb : bad) (hf : ∀ r, far r) (hn : ∀ X Y r, fin X Y r) : affK l bad far fin :=
  affK_of (fun _ => ⟨hb, hf 0, fun X Y _ _ _ _ => hn X Y 0⟩) (fun _ => hf 1) (fun _ _ X Y _ _ _ => hn X Y 1)
/-- A coordinate times the number, as bytes. -/
def scaleVC (k b : List Int) (K : List Int → Prop) : Prop := callK 20 7 b fun x => callK 23 7 (k ++ x) fun kx => callK 28 28 kx K
theorem scale_of {k b : List Int} {κ : F} {K : List Int → Prop} (hk : W32 k κ) (hb : valB b < pI) (h : ∀ o : List Int, o.length = 28 → rng 256 o → valB o < pI → tF (valB o) = κ * tF (valB b) → K o) : scaleVC k b K := by
  refine call_num fun x lx rx vx => ?_
  have wx : W32 x (tF (valB b)) := ⟨lx, ⟨rx, by rw [vx]; exact hb⟩, by unfold dec32; rw [vx]⟩
  refine mulW hk wx fun o wo => callK_of (show r32 o from wo.ok.1) fun c lc hc => ?_
  obtain ⟨rc, vc⟩ : rng 256 c ∧ valB c = val32 o := hc
  refine h c lc rc (by rw [vc]; exact wo.ok.2) ?_
  rw [vc]
  exact wo.dec
def body2 (P : List Int → Prop) (A B k : List Int) (C : List Int → Prop) : Prop :=
  sameK k wO (P [1]) (belowN k (P [1]) (scaleVC k (bX A) fun X => scaleVC k (bY A) fun Y => scaleVC k (bZ A) fun Z =>
    projV (X ++ Y ++ Z) (projV B (P [0]) fun _ => P [0]) fun e => projV B (P [0]) fun f => callU 63 12 (e ++ f) fun o => callV 97 84 o C))
def row2VC (P : List Int → Prop) (l : List Int) : Prop :=
  let A := l.take 84
  let B := (l.drop 84).take 84
  let K := l.drop 168
  affK A (affK B (callK 20 7 K fun _ => P [1]) (fun _ => callK 20 7 K fun _ => P [1]) (fun _ _ _ => callK 20 7 K fun _ => P [1]))
    (fun r => affK B (callK 20 7 K fun _ => notK r (P [1]) (P [1])) (fun s => callK 20 7 K fun k => notK r (P [1]) (notK s (P [1]) (body2 P A B k (isFarVC P))))
      (fun X Y s => callK 20 7 K fun k => notK r (P [1]) (notK s (P [1]) (body2 P A B k fun g => isFinVC P g X Y))))
    (fun X Y r => affK B (callK 20 7 K fun _ => notK r (P [1]) (P [1])) (fun s => callK 20 7 K fun k => notK r (P [1]) (notK s (P [1]) (body2 P A B k fun g => isFinVC P g X Y)))
      (fun X2 Y2 s => callK 20 7 K fun k => notK r (P [1]) (notK s (P [1]) (body2 P A B k fun g => sumVC X Y X2 Y2 (isFarVC P g) (isFinVC P g)))))
theorem row2_cond : Can.condT canRow2U Try.prog X2 tabV relsV 4 40 = inp 196 0 255 (fun l => rngs 0 255 l ((relsV 90).pre l → row2VC (fun o => (relsV 90).post l o) l)) := by kernel_rfl
theorem notK_any {r : Int} {A : Prop} (h : A) : notK r A A := fun s _ => ⟨fun _ => h, fun _ => h⟩
theorem ok3_both {e f : List Int} (le : e.length = 12) (lf : f.length = 12) (he : ok3 e 0) (hf : ok3 f 0) : ok3 (e ++ f) 0 ∧ ok3 (e ++ f) 3 ∧ tri3 (e ++ f) 0 = tri3 e 0 ∧ tri3 (e ++ f) 3 = tri3 f 0 := by
  have h1 : ∀ k, k < 3 → el4 (e ++ f) k = el4 e k := fun k hk => by
    simp only [el4]
    rw [List.drop_append_of_le_length (by omega), List.take_append_of_le_length (by simp; omega)]
  have h2 : ∀ k, el4 (e ++ f) (k + 3) = el4 f k := fun k => by
    simp only [el4]
    rw [show 4 * (k + 3) = 12 + 4 * k by omega, ← List.drop_drop, drop_app le]
  obtain ⟨a, b, c⟩ := he
  obtain ⟨a', b', c'⟩ := hf
  refine ⟨⟨?_, ?_, ?_⟩, ⟨?_, ?_, ?_⟩, ?_, ?_⟩
  · rw [h1 0 (by omega)]; exact a
  · rw [h1 1 (by omega)]; exact b
  · rw [h1 2 (by omega)]; exact c
  · rw [h2 0]; exact a'
  · rw [h2 1]; exact b'
  · rw [h2 2]; exact c'
  · simp only [tri3, Nat.zero_add]
    rw [h1 0 (by omega), h1 1 (by omega), h1 2 (by omega)]
  · simp only [tri3]
    rw [h2 0, show 3 + 1 = 1 + 3 from rfl, h2 1, show 3 + 2 = 2 + 3 from rfl, h2 2]
theorem body2_of {P : List Int → Prop} {A B K k : List Int} {C : List Int → Prop} {S T : Pt p} (t1 : P [1]) (lk : k.length = 7) (rk : r32 k) (rB : rng 256 B) (lB : B.length = 84) (hA : RepB A S) (hB : RepB B T)
    (hC : ∀ g : List Int, RepB g (asum iv S T) → C g) : body2 P A B k C := by
  refine call_same lk (fun _ => ifK_1 t1) fun hk => ifK_0 (belowN_of rk lk (fun hlt => ?_) fun _ => t1)
  have wk : W32 k (dec32 k) := ⟨lk, ⟨rk, hlt⟩, rfl⟩
  have kn : dec32 k ≠ 0 := fun e => hk (dec32_inj wk.ok okO (by rw [lk]; rfl) (by rw [e, dO]))
  refine scale_of wk hA.1.1 fun X lX rX vX eX => scale_of wk hA.1.2.1 fun Y lY rY vY eY => scale_of wk hA.1.2.2 fun Z lZ rZ vZ eZ => ?_
  obtain ⟨h1, h2, h3⟩ := parts3 (Z := Z) lX lY
  have iD : inP (X ++ Y ++ Z) := by
    unfold inP
    rw [h1, h2, h3]
    exact ⟨vX, vY, vZ⟩
  have tD : triB (X ++ Y ++ Z) = (triB A).smul (dec32 k) := by
    simp only [triB, Tri.smul, hX, hY, hZ, h1, h2, h3, eX, eY, eZ]
  refine projV_of iD fun e le oe te => projV_of hB.1 fun f lf of tf => ?_
  obtain ⟨k1, k2, k3, k4⟩ := ok3_both le lf oe of
  refine callU_of ⟨k1, k2⟩ fun o lo ho => ?_
  obtain ⟨oo, to⟩ : ok3 o 0 ∧ tri3 o 0 = cadd bF (tri3 (e ++ f) 0) (tri3 (e ++ f) 3) := ho
  refine callV_of oo fun g lg hg => ?_
  obtain ⟨_, ig, tg⟩ : rng 256 g ∧ inP g ∧ triB g = tri3 o 0 := hg
  refine hC g ⟨ig, ?_⟩
  rw [tg, to, k3, k4, te, tf, tD]
  exact rep_add good (Rep.smul good kn hA.2) hB.2
theorem row2_ok : CanOk Try.prog relsV 4 canRow2U := can_of_condT hX2 hm2 (tab := tabV) tabV_ok 40 (by decide) (by
  rw [row2_cond]
  refine inp_of _ _ _ _ fun l hl => rngs_of _ _ fun hb hp => ?_
  have hr := rng_of_mem (b := 256) l hb
  have t1 : (fun o => (relsV 90).post l o) [1] := (by decide : (1 : Int) ≠ 0)
  have rB : rng 256 ((l.drop 84).take 84) := rng_take _ (rng_drop _ hr)
  have lB : ((l.drop 84).take 84).length = 84 := by simp [hl]
  have num : ∀ {Q : List Int → Prop}, (∀ k : List Int, k.length = 7 → r32 k → Q k) → callK 20 7 (l.drop 168) Q := fun h => call_num fun k lk rk _ => h k lk rk
  have no1 : affK ((l.drop 84).take 84) (callK 20 7 (l.drop 168) fun _ => (fun o => (relsV 90).post l o) [1]) (fun _ => callK 20 7 (l.drop 168) fun _ => (fun o => (relsV 90).post l o) [1]) (fun _ _ _ => callK 20 7 (l.drop 168) fun _ => (fun o => (relsV 90).post l o) [1]) :=
    affK_any (num fun _ _ _ => t1) (fun _ => num fun _ _ _ => t1) fun _ _ _ => num fun _ _ _ => t1
  unfold row2VC
  refine affK_of (fun h => ?_) (fun hA => ?_) (fun x y X Y hA wX wY => ?_)
  · refine ⟨no1, ?_, fun X Y x y _ _ => ?_⟩
    · exact affK_any (num fun _ _ _ => notK_any t1) (fun _ => num fun _ _ _ => notK_0 t1) (fun _ _ _ => num fun _ _ _ => notK_0 t1)
    · exact affK_any (num fun _ _ _ => notK_any t1) (fun _ => num fun _ _ _ => notK_0 t1) (fun _ _ _ => num fun _ _ _ => notK_0 t1)
  · refine affK_of (fun h => ?_) (fun hB => ?_) (fun x y X Y hB wX wY => ?_)
    · exact ⟨num fun _ _ _ => notK_any t1, num fun _ _ _ => notK_1 (notK_0 t1), fun X Y x y _ _ => num fun _ _ _ => notK_1 (notK_0 t1)⟩
    · exact num fun k lk rk => notK_1 (notK_1 (body2_of (K := []) t1 lk rk rB lB hA hB fun g hg => isPt_far hg rfl t1))
    · exact num fun k lk rk => notK_1 (notK_1 (body2_of (K := []) t1 lk rk rB lB hA hB fun g hg => isPt_fin hg rfl wX wY t1))
  · refine affK_of (fun h => ?_) (fun hB => ?_) (fun x2 y2 X2 Y2 hB wX2 wY2 => ?_)
    · exact ⟨num fun _ _ _ => notK_any t1, num fun _ _ _ => notK_1 (notK_0 t1), fun X2 Y2 x2 y2 _ _ => num fun _ _ _ => notK_1 (notK_0 t1)⟩
    · exact num fun k lk rk => notK_1 (notK_1 (body2_of (K := []) t1 lk rk rB lB hA hB fun g hg => isPt_fin hg rfl wX wY t1))
    · exact num fun k lk rk => notK_1 (notK_1 (body2_of (K := []) t1 lk rk rB lB hA hB fun g hg => sum_of wX wY wX2 wY2 (fun e => isPt_far hg e t1) fun X' Y' x' y' e kX kY => isPt_fin hg e kX kY t1)))
end Go.Sx
