/- Pieces of rows over three coordinates, more: the reference's sum; three coordinates read and told; whether they are those of a point. -/
import Derived.Test.YtkjfcpeabdimmaaRowTri
import Derived.Test.YtkjfcpeabdimmaaBaseMath
set_option linter.unusedVariables false
set_option linter.unusedSimpArgs false
set_option linter.constructorNameAsVariable false
set_option maxRecDepth 100000
set_option maxHeartbeats 4000000
namespace Go.Sx
open Go.Proofs Go.FP Go.EC

theorem RepB.uniq {l : List Int} {P Q : Pt p} (h : RepB l P) (k : RepB l Q) : P = Q := rep_eq good rfl rfl h.2 k.2

/-- Same, and then not. -/
def sameN (a b : List Int) (A B : Prop) : Prop := callK 22 1 (a ++ b) (one1 fun s => notK s A B)
theorem sameN_of {a b : List Int} {x y : F} {A B : Prop} (ha : W32 a x) (hb : W32 b y) (h0 : x ≠ y → A) (h1 : x = y → B) : sameN a b A B := by
  refine call_same ha.len (fun h => notK_1 (h1 ?_)) (fun h => notK_0 (h0 fun k => h ?_))
  · rw [← ha.dec, ← hb.dec, h]
  · exact dec32_inj ha.ok hb.ok (by rw [ha.len, hb.len]) (by rw [ha.dec, hb.dec, k])

/-- The reference's sum of two points that are not far. -/
def sumVC (X1 Y1 X2 Y2 : List Int) (far : Prop) (fin : List Int → List Int → Prop) : Prop :=
  sameN X1 X2
    (callK 25 7 (Y2 ++ Y1) fun dy => callK 25 7 (X2 ++ X1) fun dx => callK 29 7 dx fun i => callK 23 7 (dy ++ i) fun s => chordVC X1 Y1 X2 s fin)
    (sameN Y1 Y2 far (sameK Y1 wO far
      (callK 23 7 (X1 ++ X1) fun xx => callK 23 7 (w3 ++ xx) fun t => callK 25 7 (t ++ w3) fun n => callK 24 7 (Y1 ++ Y1) fun d => callK 29 7 d fun i => callK 23 7 (n ++ i) fun s => chordVC X1 Y1 X2 s fin)))
theorem sum_of {X1 Y1 X2 Y2 : List Int} {x1 y1 x2 y2 : F} {far : Prop} {fin : List Int → List Int → Prop} (a1 : W32 X1 x1) (b1 : W32 Y1 y1) (a2 : W32 X2 x2) (b2 : W32 Y2 y2)
    (hfar : asum iv (some (x1, y1)) (some (x2, y2)) = none → far) (hfin : ∀ X Y x y, asum iv (some (x1, y1)) (some (x2, y2)) = some (x, y) → W32 X x → W32 Y y → fin X Y) : sumVC X1 Y1 X2 Y2 far fin := by
  simp only [asum] at hfar hfin
  refine sameN_of a1 a2 (fun hx => ?_) (fun hx => sameN_of b1 b2 (fun hy => ?_) (fun hy => sameK_of b1 w32_0 (fun h0 => ?_) (fun h0 => ?_)))
  · rw [if_pos hx] at hfin
    exact subW b2 b1 fun dy k1 => subW a2 a1 fun dx k2 => invW k2 fun i k3 => mulW k1 k3 fun s k4 => chord_of (y2 := y2) a1 b1 a2 k4 hfin
  · rw [if_neg (fun h => h hx), if_pos (.inl hy)] at hfar
    exact hfar rfl
  · rw [if_neg (fun h => h hx), if_pos (.inr h0)] at hfar
    exact hfar rfl
  · rw [if_neg (fun h => h hx), if_neg (fun h => h.elim (fun k => k hy) h0)] at hfin
    exact mulW a1 a1 fun xx k1 => mulW w32_3 k1 fun t k2 => subW k2 w32_3 fun n k3 => addW b1 b1 fun d k4 => invW k4 fun i k5 => mulW k3 k5 fun s k6 => chord_of (y2 := y2) a1 b1 a2 k6 hfin

/-- Three coordinates, read. -/
def proj3 (l : List Int) (bad : Prop) (K : List Int → Prop) : Prop :=
  setVC (bX l) bad fun ex => setVC (bY l) bad fun ey => setVC (bZ l) bad fun ez => K (ex ++ ey ++ ez)
theorem proj3_of {l : List Int} {bad : Prop} {K : List Int → Prop} (hr : rng 256 l) (hl : l.length = 84) (hin : inP l) (h : ∀ e : List Int, e.length = 12 → ok3 e 0 → tri3 e 0 = triB l → K e) : proj3 l bad K := by
  have rX : rng 256 (bX l) := rng_take _ hr
  have rY : rng 256 (bY l) := rng_take _ (rng_drop _ hr)
  have rZ : rng 256 (bZ l) := rng_drop _ hr
  have lX : (bX l).length = 28 := by simp [bX, hl]
  have lY : (bY l).length = 28 := by simp [bY, hl]
  have lZ : (bZ l).length = 28 := by simp [bZ, hl]
  refine set_of rX lX (fun k => (k hin.1).elim) fun _ ex kx ox dx => set_of rY lY (fun k => (k hin.2.1).elim) fun _ ey ky oy dy => set_of rZ lZ (fun k => (k hin.2.2).elim) fun _ ez kz oz dz => ?_
  obtain ⟨h1, h2⟩ := tri_of (⟨kx, ox, dx⟩ : Elt ex (hX l)) (⟨ky, oy, dy⟩ : Elt ey (hY l)) (⟨kz, oz, dz⟩ : Elt ez (hZ l))
  exact h _ (by simp [kx, ky, kz]) h1 h2
/-- Three coordinates, told. -/
def tell3 (e : List Int) (K : List Int → Prop) : Prop := getVC (el4 e 0) fun X => getVC (el4 e 1) fun Y => getVC (el4 e 2) fun Z => K (X ++ Y ++ Z)
theorem tell3_of {e : List Int} {K : List Int → Prop} (ho : ok3 e 0) (h : ∀ g : List Int, g.length = 84 → rng 256 g → inP g → triB g = tri3 e 0 → K g) : tell3 e K := by
  refine get_of ho.1 fun X lX rX vX eX => get_of ho.2.1 fun Y lY rY vY eY => get_of ho.2.2 fun Z lZ rZ vZ eZ => ?_
  have h1 : bX (X ++ Y ++ Z) = X := by unfold bX; rw [List.append_assoc, take_app lX]
  have h2 : bY (X ++ Y ++ Z) = Y := by unfold bY; rw [List.append_assoc, drop_app lX, take_app lY]
  have h3 : bZ (X ++ Y ++ Z) = Z := by unfold bZ; exact drop_app (by simp [lX, lY])
  refine h _ (by simp [lX, lY, lZ]) (rng_append (rng_append rX rY) rZ) ?_ ?_
  · unfold inP
    rw [h1, h2, h3]
    exact ⟨vX, vY, vZ⟩
  · simp only [triB, tri3, hX, hY, hZ, h1, h2, h3, eX, eY, eZ]

/-- Are these the coordinates of the point far away; of that with X, Y? -/
def isFarVC (P : List Int → Prop) (g : List Int) : Prop := affK g (P [0]) (fun r => ifK r (P [1]) (P [0])) (fun _ _ r => ifK r (P [0]) (P [0]))
def isFinVC (P : List Int → Prop) (g X' Y' : List Int) : Prop :=
  affK g (P [0]) (fun r => ifK r (P [0]) (P [0])) (fun X Y r => ifK r (callK 22 1 (X ++ X') (one1 fun s => ifK s (callK 22 1 (Y ++ Y') (one1 fun t => P [t])) (P [0]))) (P [0]))
theorem isFar_of {P : List Int → Prop} {g : List Int} (h : RepB g none) (h1 : P [1]) : isFarVC P g :=
  affK_of (fun k => (k _ h).elim) (fun _ => ifK_1 h1) (fun x y X Y k _ _ => absurd (h.uniq k) (by simp))
theorem isFin_of {P : List Int → Prop} {g X' Y' : List Int} {x y : F} (h : RepB g (some (x, y))) (kX : W32 X' x) (kY : W32 Y' y) (h1 : P [1]) : isFinVC P g X' Y' := by
  refine affK_of (fun k => (k _ h).elim) (fun k => absurd (h.uniq k) (by simp)) (fun a b X Y k wX wY => ifK_1 ?_)
  have e := h.uniq k
  obtain ⟨rfl, rfl⟩ : x = a ∧ y = b := by
    have := Option.some.inj e
    exact ⟨congrArg Prod.fst this, congrArg Prod.snd this⟩
  refine call_same wX.len (fun _ => ifK_1 ?_) (fun k => (k (dec32_inj wX.ok kX.ok (by rw [wX.len, kX.len]) (by rw [wX.dec, kX.dec]))).elim)
  exact call_same wY.len (fun _ => h1) (fun k => (k (dec32_inj wY.ok kY.ok (by rw [wY.len, kY.len]) (by rw [wY.dec, kY.dec]))).elim)
/-- Whether they are those of the point: a law's answer. -/
theorem isPt_far {P : List Int → Prop} {g : List Int} {S : Pt p} (h : RepB g S) (hs : S = none) (h1 : P [1]) : isFarVC P g := isFar_of (hs ▸ h) h1
theorem isPt_fin {P : List Int → Prop} {g X Y : List Int} {S : Pt p} {x y : F} (h : RepB g S) (hs : S = some (x, y)) (kX : W32 X x) (kY : W32 Y y) (h1 : P [1]) : isFinVC P g X Y := isFin_of (hs ▸ h) kX kY h1
end Go.Sx
