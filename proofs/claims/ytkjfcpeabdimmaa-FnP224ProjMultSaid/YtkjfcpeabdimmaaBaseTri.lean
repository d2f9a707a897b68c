/- Rows: the answer is true. -/
import Derived.Test.YtkjfcpeabdimmaaS2AffLaw
import Derived.Test.YtkjfcpeabdimmaaPtDbl
import Derived.Test.YtkjfcpeabdimmaaS2AffFar
import Derived.Test.YtkjfcpeabdimmaaBaseMath
set_option linter.unusedVariables false
set_option linter.unusedSimpArgs false
set_option linter.constructorNameAsVariable false
namespace Go.Sx
open Go.Proofs Go.FP Go.EC
def postRow (i o : List Int) : Prop := match o with
  | [r] => r ≠ 0
  | _ => False
/-- ids 91, 92, 93: the row at an input of the classes finite, far, none. -/
def relsW (n : Nat) : RelSpec := if n = 91 then { pre := relFin.pre, post := postRow } else if n = 92 then { pre := relFar.pre, post := postRow } else if n = 93 then { pre := relBad.pre, post := postRow } else relsA n
def canRowW (id : Nat) : Can := { id := id, kinds := ks .u8 84, args := [agg3], hp := [], outs := [.u8], res := .one (.s (.boolv 84)), hpE := [], new := [] }
def tFin : List (FuncId × Con) := (14, canFin.con) :: tabAll
def tFar : List (FuncId × Con) := (14, canFar.con) :: tabAll
def tBad : List (FuncId × Con) := (14, canBad.con) :: tabAll
end Go.Sx

/- Pieces of rows over three coordinates: the point that they stand for; the laws' p224affine with its class asked for; the reference's sum. -/
set_option maxRecDepth 100000
set_option maxHeartbeats 4000000
namespace Go.Sx
open Go.Proofs Go.FP Go.EC

def triB (l : List Int) : Tri p := ⟨hX l, hY l, hZ l⟩
/-- The 84 bytes stand for the point. -/
def RepB (l : List Int) (P : Pt p) : Prop := inP l ∧ Rep bF (triB l) P

theorem repB_far {l : List Int} (hi : inP l) (hz : hZ l = 0) (hx : hX l = 0) (hy : hY l ≠ 0) : RepB l none := ⟨hi, hx, hz, hy⟩
theorem repB_of_far {l : List Int} {P : Pt p} (hz : hZ l = 0) (h : RepB l P) : P = none ∧ hX l = 0 ∧ hY l ≠ 0 := by
  obtain ⟨hi, hr⟩ := h
  match P, hr with
  | none, hr => exact ⟨rfl, hr.1, hr.2.2⟩
  | some (x, y), hr => exact (hr.1 hz).elim
theorem repB_fin {l : List Int} (hi : inP l) (hz : hZ l ≠ 0) (h : onC (hX l * iv (hZ l)) (hY l * iv (hZ l))) : RepB l (some (hX l * iv (hZ l), hY l * iv (hZ l))) :=
  ⟨hi, hz, (inv_mul_eq good hz).symm, (inv_mul_eq good hz).symm, h⟩
theorem repB_of_fin {l : List Int} {P : Pt p} (hz : hZ l ≠ 0) (h : RepB l P) : P = some (hX l * iv (hZ l), hY l * iv (hZ l)) ∧ onC (hX l * iv (hZ l)) (hY l * iv (hZ l)) := by
  obtain ⟨hi, hr⟩ := h
  match P, hr with
  | none, hr => exact (hz hr.2.1).elim
  | some (x, y), hr =>
    obtain ⟨_, h2, h3, h4⟩ := hr
    have e1 : x = hX l * iv (hZ l) := by
      refine eq_of_mul good hz ?_
      rw [inv_mul_eq good hz]
      exact h2.symm
    have e2 : y = hY l * iv (hZ l) := by
      refine eq_of_mul good hz ?_
      rw [inv_mul_eq good hz]
      exact h3.symm
    rw [← e1, ← e2]
    exact ⟨rfl, h4⟩
theorem RepB.on {l : List Int} {P : Pt p} (h : RepB l P) : On bF P := h.2.on

/-! ### Relations of rows -/
def relAskBad : RelSpec := { pre := fun _ => True, post := fun i o => isB o (¬ inP i) }
def relAskFar : RelSpec := { pre := fun _ => True, post := fun i o => isB o (hZ i = 0) }
def relRow : RelSpec := { pre := fun _ => True, post := postRow }
/-- 63, 64: sum and double; 65, 66: which class; 90: a row. -/
def relsT (n : Nat) : RelSpec := if n = 63 then relPAdd else if n = 64 then relPDbl else if n = 65 then relAskBad else if n = 66 then relAskFar else if n = 90 then relRow else relsA n
theorem relsT_A {n : Nat} (h : n ≠ 63) (h1 : n ≠ 64) (h2 : n ≠ 65) (h3 : n ≠ 66) (h4 : n ≠ 90) : relsT n = relsA n := by simp [relsT, h, h1, h2, h3, h4]
theorem askB (q : List Int → Prop) : ∀ i, ∃ o : Int, isB [o] (q i) := fun i => by
  by_cases h : q i
  · exact ⟨1, fun _ => rfl, fun k => (k h).elim⟩
  · exact ⟨0, fun k => (h k).elim, fun _ => rfl⟩
/-- p224affine, its class asked for. -/
def tabAff : List (FuncId × Con) := [(14, canBad.askc 65), (14, canBad.con), (14, canFar.askc 66), (14, canFar.con), (14, canFin.con)]
def tabPt : List (FuncId × Con) := [(48, canPAdd.con), (48, canPAddI.con), (54, canPDbl.con), (54, canPDblI.con), (75, canB.con)]
def tabT3 : List (FuncId × Con) := tabAff ++ (tabPt ++ tabAll)
theorem tabCons {rels : Nat → RelSpec} {f : FuncId} {con : Con} {t : List (FuncId × Con)} (h : ConOk Try.prog rels f con) (ht : ∀ f con, (f, con) ∈ t → ConOk Try.prog rels f con) : ∀ g d, (g, d) ∈ (f, con) :: t → ConOk Try.prog rels g d := by
  intro g d hm
  rcases List.mem_cons.1 hm with e | e
  · cases e; exact h
  · exact ht g d e
theorem tabApp {rels : Nat → RelSpec} {s t : List (FuncId × Con)} (hs : ∀ f con, (f, con) ∈ s → ConOk Try.prog rels f con) (ht : ∀ f con, (f, con) ∈ t → ConOk Try.prog rels f con) : ∀ g d, (g, d) ∈ s ++ t → ConOk Try.prog rels g d := by
  intro g d hm
  rcases List.mem_append.1 hm with e | e
  · exact hs g d e
  · exact ht g d e
theorem tabAllT : ∀ f con, (f, con) ∈ tabAll → ConOk Try.prog relsT f con := by
  intro f con hm
  have h0 : (tabAll.all fun x => x.2.id != 63 && x.2.id != 64 && x.2.id != 65 && x.2.id != 66 && x.2.id != 90) = true := by decide
  have := List.all_eq_true.1 h0 _ hm
  simp only [Bool.and_eq_true, bne_iff_ne, ne_eq] at this
  exact (tabAllA f con hm).lift (relsT_A this.1.1.1.1 this.1.1.1.2 this.1.1.2 this.1.2 this.2)
theorem tabPt_ok : ∀ f con, (f, con) ∈ tabPt → ConOk Try.prog relsT f con :=
  tabCons (padd_con.lift rfl) (tabCons (paddI_con.lift rfl) (tabCons (pdbl_con.lift rfl) (tabCons (pdblI_con.lift rfl) (tabCons (b_con.lift rfl) (fun f con h => by cases h)))))
theorem tabAff_ok : ∀ f con, (f, con) ∈ tabAff → ConOk Try.prog relsT f con :=
  tabCons (ask_ok (askB fun i => ¬ inP i)) (tabCons (bad_con.lift rfl) (tabCons (ask_ok (askB fun i => hZ i = 0)) (tabCons (far_con.lift rfl) (tabCons (fin_con.lift rfl) (fun f con h => by cases h)))))
theorem tabT3_ok : ∀ f con, (f, con) ∈ tabT3 → ConOk Try.prog relsT f con := tabApp tabAff_ok (tabApp tabPt_ok tabAllT)

/-- A call, and what follows. -/
def callT3 (id n : Nat) (i : List Int) (K : List Int → Prop) : Prop := (relsT id).pre i ∧ alln n fun o => (relsT id).post i o → K o
theorem callT3_of {id n : Nat} {i : List Int} {K : List Int → Prop} (hp : (relsT id).pre i) (h : ∀ o : List Int, o.length = n → (relsT id).post i o → K o) : callT3 id n i K := ⟨hp, alln_len n h⟩
def affK (l : List Int) (bad : Prop) (far : Int → Prop) (fin : List Int → List Int → Int → Prop) : Prop :=
  callT3 65 1 l (one1 fun b => (b ≠ 0 → callT3 62 0 l fun _ => bad) ∧ (b = 0 → callT3 66 1 l (one1 fun f =>
    (f ≠ 0 → callT3 61 1 l (one1 far)) ∧ (f = 0 → callT3 60 15 l fun o => fin (o.take 7) ((o.drop 7).take 7) (nth 0 o 14)))))
theorem ask_of {id : Nat} {q : List Int → Prop} (e : relsT id = { pre := fun _ => True, post := fun i o => isB o (q i) }) {l : List Int} {A B : Prop} (h1 : q l → A) (h0 : ¬ q l → B) : callT3 id 1 l (one1 fun b => (b ≠ 0 → A) ∧ (b = 0 → B)) := by
  refine callT3_of (by rw [e]; trivial) fun o lo ho => ?_
  rw [e] at ho
  match o, lo with
  | [r], _ =>
    by_cases h : q l
    · have e1 : r = 1 := ho.1 h
      subst e1
      exact ⟨fun _ => h1 h, fun k => absurd k (by decide)⟩
    · have e0 : r = 0 := ho.2 h
      subst e0
      exact ⟨fun k => absurd rfl k, fun _ => h0 h⟩
/-- A point's words. -/
structure W32 (e : List Int) (x : F) : Prop where
  len : e.length = 7
  ok : ok32 e
  dec : dec32 e = x
theorem affK_of {l : List Int} {bad : Prop} {far : Int → Prop} {fin : List Int → List Int → Int → Prop}
    (h0 : (∀ P, ¬ RepB l P) → bad ∧ far 0 ∧ ∀ X Y x y, W32 X x → W32 Y y → fin X Y 0)
    (h1 : RepB l none → far 1) (h2 : ∀ x y X Y, RepB l (some (x, y)) → W32 X x → W32 Y y → fin X Y 1) : affK l bad far fin := by
  refine ask_of (q := fun i => ¬ inP i) rfl (fun hb => callT3_of hb fun _ _ _ => (h0 fun P k => hb k.1).1) fun hb => ?_
  have hi : inP l := Classical.not_not.1 hb
  refine ask_of (q := fun i => hZ i = 0) rfl (fun hz => callT3_of ⟨hi, hz⟩ fun o lo ho => ?_) fun hz => callT3_of ⟨hi, hz⟩ fun o lo ho => ?_
  · match o, lo with
    | [r], _ =>
      have ho' : isB [r] (hX l = 0 ∧ hY l ≠ 0) := ho
      show far r
      by_cases h : hX l = 0 ∧ hY l ≠ 0
      · rw [ho'.1 h]
        exact h1 (repB_far hi hz h.1 h.2)
      · rw [ho'.2 h]
        exact (h0 fun P k => h (repB_of_far hz k).2).2.1
  · obtain ⟨oX, oY, dX, dY, hb'⟩ : postFin l o := ho
    have e14 : o.drop 14 = [nth 0 o 14] := by
      match o, lo with
      | [_, _, _, _, _, _, _, _, _, _, _, _, _, _, _], _ => rfl
    rw [e14] at hb'
    have wX : W32 (o.take 7) (hX l * iv (hZ l)) := ⟨by simp [lo], oX, dX⟩
    have wY : W32 ((o.drop 7).take 7) (hY l * iv (hZ l)) := ⟨by simp [lo], oY, dY⟩
    by_cases h : onC (hX l * iv (hZ l)) (hY l * iv (hZ l))
    · rw [hb'.1 h]
      exact h2 _ _ _ _ (repB_fin hi hz h) wX wY
    · rw [hb'.2 h]
      exact (h0 fun P k => h (repB_of_fin hz k).2).2.2 _ _ _ _ wX wY

/-- Not. -/
def notK (r : Int) (A B : Prop) : Prop := ∀ s : Int, s = (if r = 0 then 1 else 0) → (s ≠ 0 → A) ∧ (s = 0 → B)
theorem notK_0 {A B : Prop} (h : A) : notK 0 A B := fun s e => ⟨fun _ => h, fun k => by rw [if_pos rfl] at e; rw [k] at e; exact absurd e (by decide)⟩
theorem notK_1 {A B : Prop} (h : B) : notK 1 A B := fun s e => ⟨fun k => by rw [if_neg (by decide)] at e; exact (k e).elim, fun _ => h⟩
/-- Which. -/
def ifK (r : Int) (A B : Prop) : Prop := (r ≠ 0 → A) ∧ (r = 0 → B)
theorem ifK_1 {A B : Prop} (h : A) : ifK 1 A B := ⟨fun _ => h, fun k => absurd k (by decide)⟩
theorem ifK_0 {A B : Prop} (h : B) : ifK 0 A B := ⟨fun k => absurd rfl k, fun _ => h⟩

/-- Same of two elements of seven words. -/
def sameK (a b : List Int) (A B : Prop) : Prop := callK 22 1 (a ++ b) (one1 fun s => ifK s A B)
theorem sameK_of {a b : List Int} {x y : F} {A B : Prop} (ha : W32 a x) (hb : W32 b y) (h1 : x = y → A) (h0 : x ≠ y → B) : sameK a b A B := by
  refine call_same ha.len (fun h => ifK_1 (h1 ?_)) (fun h => ifK_0 (h0 fun k => h ?_))
  · rw [← ha.dec, ← hb.dec, h]
  · exact dec32_inj ha.ok hb.ok (by rw [ha.len, hb.len]) (by rw [ha.dec, hb.dec, k])
theorem w32_0 : W32 wO 0 := ⟨rfl, okO, dO⟩
theorem w32_3 : W32 w3 3 := ⟨rfl, okP.1, d3⟩
theorem mulW {a b : List Int} {x y : F} {K : List Int → Prop} (ha : W32 a x) (hb : W32 b y) (h : ∀ o, W32 o (x * y) → K o) : callK 23 7 (a ++ b) K :=
  call_mul ha.ok hb.ok ha.len fun o l k d => h o ⟨l, k, by rw [d, ha.dec, hb.dec]⟩
theorem addW {a b : List Int} {x y : F} {K : List Int → Prop} (ha : W32 a x) (hb : W32 b y) (h : ∀ o, W32 o (x + y) → K o) : callK 24 7 (a ++ b) K :=
  call_add ha.ok hb.ok ha.len fun o l k d => h o ⟨l, k, by rw [d, ha.dec, hb.dec]⟩
theorem subW {a b : List Int} {x y : F} {K : List Int → Prop} (ha : W32 a x) (hb : W32 b y) (h : ∀ o, W32 o (x - y) → K o) : callK 25 7 (a ++ b) K :=
  call_sub ha.ok hb.ok ha.len fun o l k d => h o ⟨l, k, by rw [d, ha.dec, hb.dec]⟩
theorem invW {a : List Int} {x : F} {K : List Int → Prop} (ha : W32 a x) (h : ∀ o, W32 o (iv x) → K o) : callK 29 7 a K :=
  call_inv ha.ok fun o l k d => h o ⟨l, k, by rw [d, ha.dec]⟩

/-- The end of the reference's sum. -/
def chordVC (X1 Y1 X2 s : List Int) (K : List Int → List Int → Prop) : Prop :=
  callK 23 7 (s ++ s) fun ss => callK 25 7 (ss ++ X1) fun d => callK 25 7 (d ++ X2) fun x => callK 25 7 (X1 ++ x) fun e => callK 23 7 (s ++ e) fun m => callK 25 7 (m ++ Y1) fun y => K x y
theorem chord_of {X1 Y1 X2 s : List Int} {x1 y1 x2 y2 t : F} {K : List Int → List Int → Prop} (h1 : W32 X1 x1) (h2 : W32 Y1 y1) (h3 : W32 X2 x2) (hs : W32 s t)
    (h : ∀ X Y x y, chord x1 y1 x2 y2 t = some (x, y) → W32 X x → W32 Y y → K X Y) : chordVC X1 Y1 X2 s K :=
  mulW hs hs fun ss k1 => subW k1 h1 fun d k2 => subW k2 h3 fun x k3 => subW h1 k3 fun e k4 => mulW hs k4 fun m k5 => subW k5 h2 fun y k6 => h x y _ _ rfl k3 k6
/-- A row over one, or two, points of three coordinates. -/
def canRow1T : Can := { id := 90, kinds := ks .u8 84, args := [agg3], hp := [], outs := [.u8], res := .one (.s (.boolv 84)), hpE := [], new := [] }
end Go.Sx

/- Pieces of rows over three coordinates, more: the reference's sum; three coordinates read and told; whether they are those of a point. -/
set_option maxRecDepth 100000
set_option maxHeartbeats 4000000
namespace Go.Sx
open Go.Proofs Go.FP Go.EC

theorem RepB.uniq {l : List Int} {P Q : Pt p} (h : RepB l P) (k : RepB l Q) : P = Q := rep_eq good rfl rfl h.2 k.2

/-- Same, and then not. -/
def sameN (a b : List Int) (A B : Prop) : Prop := callK 22 1 (a ++ b) (one1 fun s => notK s A B)
theorem sameN_of {a b : List Int} {x y : F} {A B : Prop} (ha : W32 a x) (hb : W32 b y) (h0 : x ≠ y → A) (h1 : x = y → B) : sameN a b A B := by
  refine call_same ha.len (fun h => notK_1 (h1 ?_)) (fun h => notK_0 (h0 fun k => h ?_))
  · rw [← ha.dec, ← hb.dec, h]
  · exact dec32_inj ha.ok hb.ok (by rw [ha.len, hb.len]) (by rw [ha.dec, hb.dec, k])

/-- The reference's sum of two points that are not far. -/
def sumVC (X1 Y1 X2 Y2 : List Int) (far : Prop) (fin : List Int → List Int → Prop) : Prop :=
  sameN X1 X2
    (callK 25 7 (Y2 ++ Y1) fun dy => callK 25 7 (X2 ++ X1) fun dx => callK 29 7 dx fun i => callK 23 7 (dy ++ i) fun s => chordVC X1 Y1 X2 s fin)
    (sameN Y1 Y2 far (sameK Y1 wO far
      (callK 23 7 (X1 ++ X1) fun xx => callK 23 7 (w3 ++ xx) fun t => callK 25 7 (t ++ w3) fun n => callK 24 7 (Y1 ++ Y1) fun d => callK 29 7 d fun i => callK 23 7 (n ++ i) fun s => chordVC X1 Y1 X2 s fin)))
theorem sum_of {X1 Y1 X2 Y2 : List Int} {x1 y1 x2 y2 : F} {far : Prop} {fin : List Int → List Int → Prop} (a1 : W32 X1 x1) (b1 : W32 Y1 y1) (a2 : W32 X2 x2) (b2 : W32 Y2 y2)
    (hfar : asum iv (some (x1, y1)) (some (x2, y2)) = none → far) (hfin : ∀ X Y x y, asum iv (some (x1, y1)) (some (x2, y2)) = some (x, y) → W32 X x → W32 Y y → fin X Y) : sumVC X1 Y1 X2 Y2 far fin := by
  simp only [asum] at hfar hfin
  refine sameN_of a1 a2 (fun hx => ?_) (fun hx => sameN_of b1 b2 (fun hy => ?_) (fun hy => sameK_of b1 w32_0 (fun h0 => ?_) (fun h0 => ?_)))
  · rw [if_pos hx] at hfin
    exact subW b2 b1 fun dy k1 => subW a2 a1 fun dx k2 => invW k2 fun i k3 => mulW k1 k3 fun s k4 => chord_of (y2 := y2) a1 b1 a2 k4 hfin
  · rw [if_neg (fun h => h hx), if_pos (.inl hy)] at hfar
    exact hfar rfl
  · rw [if_neg (fun h => h hx), if_pos (.inr h0)] at hfar
    exact hfar rfl
  · rw [if_neg (fun h => h hx), if_neg (fun h => h.elim (fun k => k hy) h0)] at hfin
    exact mulW a1 a1 fun xx k1 => mulW w32_3 k1 fun t k2 => subW k2 w32_3 fun n k3 => addW b1 b1 fun d k4 => invW k4 fun i k5 => mulW k3 k5 fun s k6 => chord_of (y2 := y2) a1 b1 a2 k6 hfin

/-- Three coordinates, read. -/
def proj3 (l : List Int) (bad : Prop) (K : List Int → Prop) : Prop :=
  setVC (bX l) bad fun ex => setVC (bY l) bad fun ey => setVC (bZ l) bad fun ez => K (ex ++ ey ++ ez)
theorem proj3_of {l : List Int} {bad : Prop} {K : List Int → Prop} (hr : rng 256 l) (hl : l.length = 84) (hin : inP l) (h : ∀ e : List Int, e.length = 12 → ok3 e 0 → tri3 e 0 = triB l → K e) : proj3 l bad K := by
  have rX : rng 256 (bX l) := rng_take _ hr
  have rY : rng 256 (bY l) := rng_take _ (rng_drop _ hr)
  have rZ : rng 256 (bZ l) := rng_drop _ hr
  have lX : (bX l).length = 28 := by simp [bX, hl]
  have lY : (bY l).length = 28 := by simp [bY, hl]
  have lZ : (bZ l).length = 28 := by simp [bZ, hl]
  refine set_of rX lX (fun k => (k hin.1).elim) fun _ ex kx ox dx => set_of rY lY (fun k => (k hin.2.1).elim) fun _ ey ky oy dy => set_of rZ lZ (fun k => (k hin.2.2).elim) fun _ ez kz oz dz => ?_
  obtain ⟨h1, h2⟩ := tri_of (⟨kx, ox, dx⟩ : Elt ex (hX l)) (⟨ky, oy, dy⟩ : Elt ey (hY l)) (⟨kz, oz, dz⟩ : Elt ez (hZ l))
  exact h _ (by simp [kx, ky, kz]) h1 h2
/-- Three coordinates, told. -/
def tell3 (e : List Int) (K : List Int → Prop) : Prop := getVC (el4 e 0) fun X => getVC (el4 e 1) fun Y => getVC (el4 e 2) fun Z => K (X ++ Y ++ Z)
theorem tell3_of {e : List Int} {K : List Int → Prop} (ho : ok3 e 0) (h : ∀ g : List Int, g.length = 84 → rng 256 g → inP g → triB g = tri3 e 0 → K g) : tell3 e K := by
  refine get_of ho.1 fun X lX rX vX eX => get_of ho.2.1 fun Y lY rY vY eY => get_of ho.2.2 fun Z lZ rZ vZ eZ => ?_
  have h1 : bX (X ++ Y ++ Z) = X := by unfold bX; rw [List.append_assoc, take_app lX]
  have h2 : bY (X ++ Y ++ Z) = Y := by unfold bY; rw [List.append_assoc, drop_app lX, take_app lY]
  have h3 : bZ (X ++ Y ++ Z) = Z := by unfold bZ; exact drop_app (by simp [lX, lY])
  refine h _ (by simp [lX, lY, lZ]) (rng_append (rng_append rX rY) rZ) ?_ ?_
  · unfold inP
    rw [h1, h2, h3]
    exact ⟨vX, vY, vZ⟩
  · simp only [triB, tri3, hX, hY, hZ, h1, h2, h3, eX, eY, eZ]

/-- Are these the coordinates of the point far away; of that with X, Y? -/
def isFarVC (P : List Int → Prop) (g : List Int) : Prop := affK g (P [0]) (fun r => ifK r (P [1]) (P [0])) (fun _ _ r => ifK r (P [0]) (P [0]))
def isFinVC (P : List Int → Prop) (g X' Y' : List Int) : Prop :=
  affK g (P [0]) (fun r => ifK r (P [0]) (P [0])) (fun X Y r => ifK r (callK 22 1 (X ++ X') (one1 fun s => ifK s (callK 22 1 (Y ++ Y') (one1 fun t => P [t])) (P [0]))) (P [0]))
theorem isFar_of {P : List Int → Prop} {g : List Int} (h : RepB g none) (h1 : P [1]) : isFarVC P g :=
  affK_of (fun k => (k _ h).elim) (fun _ => ifK_1 h1) (fun x y X Y k _ _ => absurd (h.uniq k) (by simp))
theorem isFin_of {P : List Int → Prop} {g X' Y' : List Int} {x y : F} (h : RepB g (some (x, y))) (kX : W32 X' x) (kY : W32 Y' y) (h1 : P [1]) : isFinVC P g X' Y' := by
  refine affK_of (fun k => (k _ h).elim) (fun k => absurd (h.uniq k) (by simp)) (fun a b X Y k wX wY => ifK_1 ?_)
  have e := h.uniq k
  obtain ⟨rfl, rfl⟩ : x = a ∧ y = b := by
    have := Option.some.inj e
    exact ⟨congrArg Prod.fst this, congrArg Prod.snd this⟩
  refine call_same wX.len (fun _ => ifK_1 ?_) (fun k => (k (dec32_inj wX.ok kX.ok (by rw [wX.len, kX.len]) (by rw [wX.dec, kX.dec]))).elim)
  exact call_same wY.len (fun _ => h1) (fun k => (k (dec32_inj wY.ok kY.ok (by rw [wY.len, kY.len]) (by rw [wY.dec, kY.dec]))).elim)
/-- Whether they are those of the point: a law's answer. -/
theorem isPt_far {P : List Int → Prop} {g : List Int} {S : Pt p} (h : RepB g S) (hs : S = none) (h1 : P [1]) : isFarVC P g := isFar_of (hs ▸ h) h1
theorem isPt_fin {P : List Int → Prop} {g X Y : List Int} {S : Pt p} {x y : F} (h : RepB g S) (hs : S = some (x, y)) (kX : W32 X x) (kY : W32 Y y) (h1 : P [1]) : isFinVC P g X Y := isFin_of (hs ▸ h) kX kY h1
end Go.Sx
