/- A point read of the shorter form of its bytes. -/
import Derived.Test.YtkjfcpeabdimmaaSqRoot
set_option linter.unusedVariables false
set_option linter.unusedSimpArgs false
set_option linter.constructorNameAsVariable false
set_option maxRecDepth 100000
set_option maxHeartbeats 4000000
namespace Go.Sx
open Go.Proofs Go.FP Go.EC
def relPtS : RelSpec := { pre := fun i => ∃ P, ShB i P, post := fun i o => ok3 o 0 ∧ ∀ P, ShB i P → Rep bF (tri3 o 0) P }
/-- 128: bytes of the shorter form to a point. -/
def relsQ3 (n : Nat) : RelSpec := if n = 128 then relPtS else relsQ2 n
theorem tabQ3_2 {t : List (FuncId × Con)} (h0 : (t.all fun x => x.2.id != 128) = true) (h : ∀ f con, (f, con) ∈ t → ConOk Try.prog relsQ2 f con) : ∀ f con, (f, con) ∈ t → ConOk Try.prog relsQ3 f con := by
  intro f con hm
  have := List.all_eq_true.1 h0 _ hm
  simp only [bne_iff_ne, ne_eq] at this
  exact (h f con hm).lift (by simp [relsQ3, this])
def canPtS : Can := { id := 128, kinds := ks .u8 29, args := [.one (.s (.sliceU 0 0 29))], hp := [ro (vs .u8 0 29)], outs := ks .u64 12, res := .tup [.s (.ptr 1 0), .s (.bool true)], hpE := [vs .u8 0 29], new := [newPt 1, vs .u64 29 4, vs .u64 33 4, vs .u64 37 4] }
def tabPS : List (FuncId × Con) := (103, canSqrt.con) :: tabC2
theorem tabPS_ok : ∀ f con, (f, con) ∈ tabPS → ConOk Try.prog relsQ3 f con := tabQ3_2 (by decide) (tabCons sqrt_con tabC2_ok)
-- registers: 0 x, 1 the polynomial, 2 three times x, 3 b
def polyOps2 : List Fop := [(1, 1, 0, 0), (0, 1, 1, 0), (2, 2, 0, 0), (2, 2, 2, 0), (4, 1, 1, 2), (6, 3, 0, 0), (2, 1, 1, 3)]
theorem poly_alg2 {n : Nat} [NeZero n] (b x : Fin n) : nth 0 (fopG b polyOps2 [x, 0, 0, 0]) 1 = rhs b x := by
  simp only [polyOps2, fopG, putL, nth, rhs]
  grind
def rootVC (Q : List Int → Prop) (b : Int) (ex y2 : List Int) : Prop :=
  callZ 129 4 y2 fun y => callK 10 4 (c0 ++ y) fun o => binR .and .u8 b 1 fun v => callU 68 28 y fun Y => binR .and .u8 (nth 0 Y 27) 1 fun u => binR .xor .u8 u v fun c => convR .i64 c fun d => callL 123 4 (d :: (y ++ o)) fun z => Q (ex ++ z ++ eOne)
def ptsVC (Q : List Int → Prop) (l : List Int) : Prop :=
  byteK (nth 0 l 0) 2 (callZ 132 4 (l.drop 1) fun ex => fopVC (fun s => rootVC Q (nth 0 l 0) ex (nth c0 s 1)) polyOps2 [ex, c0, c0, c0])
    (byteK (nth 0 l 0) 3 (callZ 132 4 (l.drop 1) fun ex => fopVC (fun s => rootVC Q (nth 0 l 0) ex (nth c0 s 1)) polyOps2 [ex, c0, c0, c0]) False)
theorem pts_cond : Can.condT canPtS Try.prog X2 tabPS relsQ3 59 20 = inp 29 0 255 (fun l => rngs 0 255 l ((relsQ3 128).pre l → ptsVC (fun o => (relsQ3 128).post l o) l)) := by kernel_rfl
theorem neg_val {y : F} (h : y ≠ 0) : ((0 - y : F).val : Int) = pI - (y.val : Int) := by
  have h1 : 0 < y.val := Nat.pos_of_ne_zero (val_ne h)
  have h2 := y.isLt
  have e : (0 - y : F).val = (p - y.val) % p := by
    rw [Fin.sub_def]
    simp
  rw [e, Nat.mod_eq_of_lt (by omega), pI_eq]
  omega
theorem neg_twice {n : Nat} [NeZero n] (y : Fin n) : (0 : Fin n) - (0 - y) = y := by grind
theorem xor_bits {a b : Int} (ha : a = 0 ∨ a = 1) (hb : b = 0 ∨ b = 1) : (a = b → binFn .xor .u8 a b = 0) ∧ (a ≠ b → binFn .xor .u8 a b = 1) := by
  rcases ha with rfl | rfl <;> rcases hb with rfl | rfl <;> exact ⟨fun h => by first | (exact absurd h (by decide)) | decide +kernel, fun h => by first | (exact absurd rfl h) | decide +kernel⟩
theorem root_law {l : List Int} {ex y2 : List Int} {x y : F} {Q : List Int → Prop} (hb : nth 0 l 0 = 2 + (y.val : Int) % 2) (hx : Elt ex x) (hy : Elt y2 (y * y)) (hQ : ∀ z, Elt z y → Q (ex ++ z ++ eOne)) : rootVC Q (nth 0 l 0) ex y2 := by
  refine callZ_of ⟨hy.ok, y, hy.dec⟩ fun r lr hr => ?_
  obtain ⟨or, er⟩ : ok64 r ∧ dec64 r * dec64 r = dec64 y2 := hr
  rw [hy.dec] at er
  have her : Elt r (dec64 r) := ⟨lr, or, rfl⟩
  refine call4_2 10 (fun a b => a - b) rfl elt0 her fun o ho => binR_of (callU_get her fun Y lY rY vY eY => binR_of (binR_of (convR_of ?_)))
  rw [and_u8_1, and_u8_1, hb]
  have ey : nth 0 Y 27 % 2 = ((dec64 r).val : Int) % 2 := by rw [← eY, tF_val (valB_nonneg rY) vY, valB_mod2 lY]
  have eb : (2 + (y.val : Int) % 2) % 2 = (y.val : Int) % 2 := by omega
  rw [ey, eb]
  have hpar : ((dec64 r).val : Int) % 2 = (y.val : Int) % 2 ∨ ((dec64 r).val : Int) % 2 ≠ (y.val : Int) % 2 := by omega
  obtain ⟨x0, x1⟩ := xor_bits (a := ((dec64 r).val : Int) % 2) (b := (y.val : Int) % 2) (by omega) (by omega)
  have podd : pI % 2 = 1 := by decide
  by_cases h : ((dec64 r).val : Int) % 2 = (y.val : Int) % 2
  · rw [x0 h]
    have hw : IntKind.i64.wrap 0 = 0 := by decide +kernel
    rw [hw]
    refine sel_of (.inl rfl) her ho (fun _ z hz => ?_) fun k => absurd k (by decide)
    by_cases hry : dec64 r = y
    · rw [hry] at hz
      exact hQ z hz
    · have e1 := roots (fun _ k => iv_mul k) er hry
      have hy0 : y ≠ 0 := fun k => hry (by rw [e1, k]; decide +kernel)
      have := neg_val hy0
      rw [← e1] at this
      omega
  · rw [x1 h]
    have hw : IntKind.i64.wrap 1 = 1 := by decide +kernel
    rw [hw]
    refine sel_of (.inr rfl) her ho (fun k => absurd k (by decide)) fun _ z hz => ?_
    have hry : dec64 r ≠ y := fun k => h (by rw [k])
    have e1 := roots (fun _ k => iv_mul k) er hry
    have e2 : (0 : F) - dec64 r = y := by rw [e1]; exact neg_twice y
    rw [e2] at hz
    exact hQ z hz
theorem pts_con : ConOk Try.prog relsQ3 59 canPtS.con := con_of_can (can_of_condT hX2 hm2 (tab := tabPS) tabPS_ok 20 (by decide) (by
  rw [pts_cond]
  refine inp_of _ _ _ _ fun l hl => rngs_of _ _ fun hb hp => ?_
  obtain ⟨P, hP⟩ : ∃ P, ShB l P := hp
  have hP0 := hP
  match P, hP with
  | none, h =>
    have : l = [0] := h
    subst this
    exact absurd hl (by decide)
  | some (x, y), ⟨_, hr, h0, vx, ex, hon⟩ =>
    have go : callZ 132 4 (l.drop 1) fun e => fopVC (fun s => rootVC (fun o => (relsQ3 128).post l o) (nth 0 l 0) e (nth c0 s 1)) polyOps2 [e, c0, c0, c0] := by
      refine callZ_of ⟨rng_drop _ hr, vx⟩ fun e le he' => ?_
      have he : Elt e x := ⟨le, he'.1, he'.2.trans ex⟩
      refine fop_of polyOps2 _ [x, 0, 0, 0] ⟨he, elt0, elt0, elt0, trivial⟩ fun s hs => ?_
      have h1 := hs.nth elt0 1
      rw [poly_alg2] at h1
      rw [show rhs bF x = y * y from hon.symm] at h1
      refine root_law h0 he h1 fun z hz => ?_
      obtain ⟨k1, k2⟩ := tri_of he hz eltOne
      refine ⟨k1, fun P' hP' => ?_⟩
      have e' : P' = some (x, y) := by
        match P', hP' with
        | none, h' =>
          have : l = [0] := h'
          subst this
          exact absurd hl (by decide)
        | some (x', y'), hP' =>
          obtain ⟨_, _, h0', _, ex', hon'⟩ := hP'
          have exx : x' = x := by rw [← ex', ← ex]
          subst exx
          have eyy : y' * y' = y * y := by rw [show y' * y' = rhs bF x' from hon', show y * y = rhs bF x' from hon]
          have par : (y'.val : Int) % 2 = (y.val : Int) % 2 := by rw [h0] at h0'; omega
          by_cases hyy : y' = y
          · rw [hyy]
          · have e1 := roots (fun _ k => iv_mul k) eyy hyy
            have hy0 : y ≠ 0 := fun k => hyy (by rw [e1, k]; decide +kernel)
            have h2 := neg_val hy0
            rw [← e1] at h2
            have podd : pI % 2 = 1 := by decide
            omega
      rw [e', k2]
      exact ⟨fun k => one_ne k.symm, by show x = x * 1; grind, by show y = y * 1; grind, hon⟩
    refine byteK_of (fun _ => go) fun h2 => byteK_of (fun _ => go) fun h3 => ?_
    have : (y.val : Int) % 2 = 0 ∨ (y.val : Int) % 2 = 1 := by omega
    omega))
end Go.Sx
