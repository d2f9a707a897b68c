/- What p224affine answers. -/
import Derived.Test.YtkjfcpeabdimmaaS2Aff
set_option linter.unusedVariables false
set_option linter.unusedSimpArgs false
set_option linter.constructorNameAsVariable false
set_option maxRecDepth 100000
set_option maxHeartbeats 4000000
namespace Go.Sx
open Go.Proofs Go.FP Go.EC

theorem take_app {a b : List Int} {n : Nat} (h : a.length = n) : (a ++ b).take n = a := by
  rw [List.take_append_of_le_length (by omega), List.take_of_length_le (by omega)]
theorem drop_app {a b : List Int} {n : Nat} (h : a.length = n) : (a ++ b).drop n = b := by
  rw [List.drop_append_of_le_length (by omega), List.drop_of_length_le (by omega)]; rfl
theorem alln_len : ∀ (n : Nat) {K : List Int → Prop}, (∀ o : List Int, o.length = n → K o) → alln n K
  | 0, K, h => h [] rfl
  | n + 1, K, h => fun x => alln_len n fun l hl => h (x :: l) (by simp [hl])
theorem callK_of {id n : Nat} {i : List Int} {K : List Int → Prop} (hp : (relsF id).pre i) (h : ∀ o : List Int, o.length = n → (relsF id).post i o → K o) : callK id n i K := ⟨hp, alln_len n h⟩

theorem call_num {b : List Int} {K : List Int → Prop} (h : ∀ o : List Int, o.length = 7 → r32 o → val32 o = valB b → K o) : callK 20 7 b K := callK_of trivial fun o hl hp => h o hl hp.1 hp.2
theorem call_bin (id : Nat) (f : F → F → F) (e : relsF id = sop2 f) {a b : List Int} {K : List Int → Prop} (ha : ok32 a) (hb : ok32 b) (hla : a.length = 7) (h : ∀ o : List Int, o.length = 7 → ok32 o → dec32 o = f (dec32 a) (dec32 b) → K o) : callK id 7 (a ++ b) K := by
  unfold callK
  rw [e]
  refine ⟨⟨by rw [take_app hla]; exact ha, by rw [drop_app hla]; exact hb⟩, alln_len 7 fun o hl hp => h o hl hp.1 ?_⟩
  have := hp.2
  rw [take_app hla, drop_app hla] at this
  exact this
theorem call_mul {a b : List Int} {K : List Int → Prop} (ha : ok32 a) (hb : ok32 b) (hla : a.length = 7) (h : ∀ o : List Int, o.length = 7 → ok32 o → dec32 o = dec32 a * dec32 b → K o) : callK 23 7 (a ++ b) K := call_bin 23 _ rfl ha hb hla h
theorem call_add {a b : List Int} {K : List Int → Prop} (ha : ok32 a) (hb : ok32 b) (hla : a.length = 7) (h : ∀ o : List Int, o.length = 7 → ok32 o → dec32 o = dec32 a + dec32 b → K o) : callK 24 7 (a ++ b) K := call_bin 24 _ rfl ha hb hla h
theorem call_sub {a b : List Int} {K : List Int → Prop} (ha : ok32 a) (hb : ok32 b) (hla : a.length = 7) (h : ∀ o : List Int, o.length = 7 → ok32 o → dec32 o = dec32 a - dec32 b → K o) : callK 25 7 (a ++ b) K := call_bin 25 _ rfl ha hb hla h
theorem call_inv {a : List Int} {K : List Int → Prop} (ha : ok32 a) (h : ∀ o : List Int, o.length = 7 → ok32 o → dec32 o = iv (dec32 a) → K o) : callK 29 7 a K := callK_of ha fun o hl hp => h o hl hp.1 hp.2

theorem call_same {a b : List Int} {K : Int → Prop} (hla : a.length = 7) (h1 : a = b → K 1) (h0 : a ≠ b → K 0) : callK 22 1 (a ++ b) (one1 K) := by
  refine callK_of trivial fun o hl hp => ?_
  match o, hl with
  | [r], _ =>
    have hp' : isB [r] ((a ++ b).take 7 = (a ++ b).drop 7) := hp
    rw [take_app hla, drop_app hla] at hp'
    show K r
    by_cases h : a = b
    · rw [hp'.1 h]; exact h1 h
    · rw [hp'.2 h]; exact h0 h
theorem okP : ok32 w3 ∧ ok32 wB ∧ r32 wP ∧ r32 wO := by
  refine ⟨⟨?_, by decide⟩, ⟨?_, by decide⟩, ?_, ?_⟩ <;> (simp only [r32, w3, wB, wP, wO, rng]; decide)
theorem below_of {x : List Int} {bad K : Prop} (hx : r32 x) (hl : x.length = 7) (h1 : val32 x < pI → K) (h0 : ¬ val32 x < pI → bad) : belowVC x bad K := by
  refine callK_of (rng_append hx okP.2.2.1) fun o hlo hp => ?_
  match o, hlo with
  | [r], _ =>
    have hp' : isB [r] (val32 ((x ++ wP).take 7) < val32 ((x ++ wP).drop 7)) := hp
    rw [take_app hl, drop_app hl, show val32 wP = pI from pV] at hp'
    intro s es
    by_cases h : val32 x < pI
    · rw [hp'.1 h] at es
      exact ⟨fun k => (k (by rw [es]; decide)).elim, fun _ => h1 h⟩
    · rw [hp'.2 h] at es
      exact ⟨fun _ => h0 h, fun k => by rw [k] at es; exact absurd es (by decide)⟩
theorem d3 : dec32 w3 = 3 := by decide +kernel
theorem dB : dec32 wB = bF := by decide +kernel
theorem dO : dec32 wO = 0 := by decide +kernel
theorem okO : ok32 wO := ⟨okP.2.2.2, by decide⟩
theorem on_of {X Y : List Int} {K : Int → Prop} (hX : ok32 X) (hY : ok32 Y) (hlX : X.length = 7) (hlY : Y.length = 7) (h1 : onC (dec32 X) (dec32 Y) → K 1) (h0 : ¬ onC (dec32 X) (dec32 Y) → K 0) : onVC X Y K := by
  refine call_mul hY hY hlY fun yy lyy oyy dyy => call_mul hX hX hlX fun xx lxx oxx dxx => call_mul oxx hX lxx fun xxx lxxx oxxx dxxx => call_mul okP.1 hX rfl fun x3 lx3 ox3 dx3 =>
    call_sub oxxx ox3 lxxx fun d ld od dd => call_add od okP.2.1 ld fun rh lr orh dr => ?_
  have e : dec32 rh = rhs bF (dec32 X) := by rw [dr, dd, dxxx, dxx, dx3, d3, dB]; rfl
  refine call_same lyy (fun h => h1 ?_) (fun h => h0 fun k => h ?_)
  · show dec32 Y * dec32 Y = _
    rw [← dyy, h, e]
  · refine dec32_inj oyy orh (by omega) ?_
    rw [dyy, e]
    exact k

/-- The answer by class. -/
theorem aff_of {bad : Prop} {F1 : Int → Prop} {F0 : Prop} {G : List Int → List Int → Int → Prop} {l : List Int}
    (hbad : ¬ inP l → bad)
    (hfar1 : inP l → hZ l = 0 → hX l = 0 → ∀ r : Int, (hY l = 0 → r = 0) → (hY l ≠ 0 → r = 1) → F1 r)
    (hfar0 : inP l → hZ l = 0 → hX l ≠ 0 → F0)
    (hfin : inP l → hZ l ≠ 0 → ∀ X Y : List Int, X.length = 7 → Y.length = 7 → ok32 X → ok32 Y → dec32 X = hX l * iv (hZ l) → dec32 Y = hY l * iv (hZ l) → ∀ r : Int, (onC (dec32 X) (dec32 Y) → r = 1) → (¬ onC (dec32 X) (dec32 Y) → r = 0) → G X Y r) :
    affVC bad F1 F0 G l := by
  refine call_num fun x lx rx vx => call_num fun y ly ry vy => call_num fun z lz rz vz => below_of rx lx (fun bx => below_of ry ly (fun by' => below_of rz lz (fun bz => ?_) ?_) ?_) ?_
  · have hin : inP l := ⟨by rw [← vx]; exact bx, by rw [← vy]; exact by', by rw [← vz]; exact bz⟩
    have ox : ok32 x := ⟨rx, bx⟩
    have oy : ok32 y := ⟨ry, by'⟩
    have oz : ok32 z := ⟨rz, bz⟩
    have ex : dec32 x = hX l := by unfold dec32 hX; rw [vx]
    have ey : dec32 y = hY l := by unfold dec32 hY; rw [vy]
    have ez : dec32 z = hZ l := by unfold dec32 hZ; rw [vz]
    have zero : ∀ w : List Int, w.length = 7 → ok32 w → (w = wO ↔ dec32 w = 0) := fun w hl ho => ⟨fun h => by rw [h, dO], fun h => dec32_inj ho okO (by rw [hl]; rfl) (by rw [h, dO])⟩
    refine call_same lz (fun hz => ⟨fun _ => ?_, fun k => absurd k (by decide)⟩) (fun hz => ⟨fun k => absurd rfl k, fun _ => ?_⟩)
    · have z0 : hZ l = 0 := by rw [← ez]; exact (zero z lz oz).1 hz
      refine call_same lx (fun hx => ⟨fun _ => ?_, fun k => absurd k (by decide)⟩) (fun hx => ⟨fun k => absurd rfl k, fun _ => ?_⟩)
      · have x0 : hX l = 0 := by rw [← ex]; exact (zero x lx ox).1 hx
        refine call_same ly (fun hy r er => ?_) (fun hy r er => ?_)
        · have y0 : hY l = 0 := by rw [← ey]; exact (zero y ly oy).1 hy
          exact hfar1 hin z0 x0 r (fun _ => by rw [er]; decide) (fun k => (k y0).elim)
        · have y0 : hY l ≠ 0 := fun k => hy ((zero y ly oy).2 (by rw [ey]; exact k))
          exact hfar1 hin z0 x0 r (fun k => (y0 k).elim) (fun _ => by rw [er]; decide)
      · exact hfar0 hin z0 fun k => hx ((zero x lx ox).2 (by rw [ex]; exact k))
    · have z0 : hZ l ≠ 0 := fun k => hz ((zero z lz oz).2 (by rw [ez]; exact k))
      refine call_inv oz fun v lv ov dv => ?_
      have ev : dec32 v = iv (hZ l) := by rw [dv, ez]
      have fin : ∀ X Y : List Int, X.length = 7 → Y.length = 7 → ok32 X → ok32 Y → dec32 X = dec32 x * dec32 v → dec32 Y = dec32 y * dec32 v → onVC X Y (G X Y) := fun X Y lX lY oX oY dX dY => by
        have eX : dec32 X = hX l * iv (hZ l) := by rw [dX, ex, ev]
        have eY : dec32 Y = hY l * iv (hZ l) := by rw [dY, ey, ev]
        exact on_of oX oY lX lY (fun h => hfin hin z0 X Y lX lY oX oY eX eY 1 (fun _ => rfl) (fun k => (k h).elim)) (fun h => hfin hin z0 X Y lX lY oX oY eX eY 0 (fun k => (h k).elim) (fun _ => rfl))
      exact ⟨call_mul ox ov lx fun X lX oX dX => call_mul oy ov ly fun Y lY oY dY => fin X Y lX lY oX oY dX dY,
        call_mul ox ov lx fun X lX oX dX => ⟨call_mul oy ov ly fun Y lY oY dY => fin X Y lX lY oX oY dX dY, call_mul oy ov ly fun Y lY oY dY => fin X Y lX lY oX oY dX dY⟩⟩
  · exact fun h => hbad fun k => h (by rw [vz]; exact k.2.2)
  · exact fun h => hbad fun k => h (by rw [vy]; exact k.2.1)
  · exact fun h => hbad fun k => h (by rw [vx]; exact k.1)

theorem fin_con : ConOk Try.prog relsA 14 canFin.con := con_of_can (can_of_condT hX2 hm2 (tab := tabAll) tabAllA 20 (by decide) (by
  rw [fin_cond]
  refine inp_of _ _ _ _ fun l hl => rngs_of _ _ fun _ hp => ?_
  have hp' : inP l ∧ hZ l ≠ 0 := hp
  refine aff_of (fun h => h hp'.1) (fun _ h _ _ _ _ => hp'.2 h) (fun _ h _ => hp'.2 h) fun _ _ X Y lX lY oX oY eX eY r h1 h0 => ?_
  show postFin l (X ++ Y ++ [r])
  unfold postFin
  have e1 : (X ++ Y ++ [r]).take 7 = X := by rw [List.append_assoc, take_app lX]
  have e2 : ((X ++ Y ++ [r]).drop 7).take 7 = Y := by rw [List.append_assoc, drop_app lX, take_app lY]
  have e3 : (X ++ Y ++ [r]).drop 14 = [r] := drop_app (by simp [lX, lY])
  rw [e1, e2, e3]
  rw [eX, eY] at h1 h0
  exact ⟨oX, oY, eX, eY, h1, h0⟩))
end Go.Sx
