/- Row FnP224Coordinates: the answer is true. -/
import Derived.Test.YtkjfcpeabdimmaaRowU
set_option linter.unusedVariables false
set_option linter.unusedSimpArgs false
set_option linter.constructorNameAsVariable false
set_option maxRecDepth 100000
set_option maxHeartbeats 4000000
namespace Go.Sx
open Go.Proofs Go.FP Go.EC
/-- SetBytes of 28 bytes: bad where they are not below the prime. -/
def setU (b : List Int) (bad : Prop) (K : List Int → Prop) : Prop :=
  callK 10 4 ([0, 0, 0, 0, 18446744069414584320, 18446744073709551615, 0, 0]) fun m => callU 68 28 m fun e => callK 5 1 (b ++ e) (one1 fun r => ∀ t : Int, t = (if cmpFn .eql r 0 = true then 1 else 0) →
    (t ≠ 0 → bad) ∧ (t = 0 → callK 1 4 b.reverse fun u => callK 3 4 u K))
theorem setU_of {b : List Int} {bad : Prop} {K : List Int → Prop} (hb : rng 256 b) (hl : b.length = 28) (h0 : ¬ valB b < pI → bad) (h1 : valB b < pI → ∀ e : List Int, Elt e (tF (valB b)) → K e) : setU b bad K := by
  refine callK_of ⟨okMinus.1, okMinus.2.1⟩ fun m lm hm => callU_of hm.1 fun e le he => callK_of trivial fun o lo ho => ?_
  obtain ⟨re, ve, de⟩ : rng 256 e ∧ valB e < pI ∧ tF (valB e) = dec64 m := he
  have em : dec64 m = 0 - 1 := by rw [hm.2]; show dec64 [0, 0, 0, 0] - dec64 [18446744069414584320, 18446744073709551615, 0, 0] = _; rw [okMinus.2.2.1, okMinus.2.2.2]
  have ee : valB e = pI - 1 := by
    refine tF_inj (valB_nonneg re) ve (by decide) (by decide) ?_
    rw [de, em, tF_minus]
  match o, lo with
  | [r], _ =>
    have ho' : (valB ((b ++ e).take 28) ≤ valB ((b ++ e).drop 28) → r = 1) ∧ (¬ valB ((b ++ e).take 28) ≤ valB ((b ++ e).drop 28) → r = 0) := ho
    rw [take_app hl, drop_app hl, ee] at ho'
    intro t et
    have ht := cmp_ite et
    refine ⟨fun h => h0 fun k => ?_, fun h => ?_⟩
    · have := ho'.1 (by omega)
      rw [this] at ht
      exact absurd (ht.1 h) (by decide)
    · have hlt : valB b < pI := by
        apply Classical.byContradiction
        intro k
        have := ho'.2 (by omega)
        rw [this] at ht
        exact ht.2 (by decide) h
      refine callK_of trivial fun u lu hu => ?_
      have eu : val64 u = valB b := hu.2
      refine callK_of (by show val64 u < pI; rw [eu]; exact hlt) fun e' le' he' => h1 hlt e' ⟨le', he'.1, ?_⟩
      rw [he'.2, eu]

-- registers: 0 x, 1 y, 2 the polynomial, 3 three times x, 4 b, 5 the square
def polyOps : List Fop := [(1, 2, 0, 0), (0, 2, 2, 0), (2, 3, 0, 0), (2, 3, 3, 0), (4, 2, 2, 3), (6, 4, 0, 0), (2, 2, 2, 4), (1, 5, 1, 1)]
theorem poly_alg {n : Nat} [NeZero n] (b x y : Fin n) : nth 0 (fopG b polyOps [x, y, 0, 0, 0, 0]) 2 = rhs b x ∧ nth 0 (fopG b polyOps [x, y, 0, 0, 0, 0]) 5 = y * y := by
  simp only [polyOps, fopG, putL, nth, rhs]
  refine ⟨?_, trivial⟩
  grind
/-- The check of two coordinates. -/
def checkVC (ex ey : List Int) (off on : Prop) : Prop :=
  fopVC (fun s => callU 15 1 (nth c0 s 2 ++ nth c0 s 5) (one1 fun r => ∀ q : Int, q = (if cmpFn .neq r 1 = true then 1 else 0) → (q ≠ 0 → off) ∧ (q = 0 → on))) polyOps [ex, ey, c0, c0, c0, c0]
theorem check_of {ex ey : List Int} {x y : F} {off on : Prop} (hx : Elt ex x) (hy : Elt ey y) (h1 : onC x y → on) (h0 : ¬ onC x y → off) : checkVC ex ey off on := by
  refine fop_of polyOps _ [x, y, 0, 0, 0, 0] ⟨hx, hy, elt0, elt0, elt0, elt0, trivial⟩ fun s hs => ?_
  have a := hs.nth elt0 2
  have b := hs.nth elt0 5
  rw [(poly_alg bF x y).1] at a
  rw [(poly_alg bF x y).2] at b
  refine callU_of ⟨by rw [take_app a.len]; exact a.ok, by rw [drop_app a.len]; exact b.ok⟩ fun o lo ho => ?_
  have ho' : isB o (dec64 ((nth c0 s 2 ++ nth c0 s 5).take 4) = dec64 ((nth c0 s 2 ++ nth c0 s 5).drop 4)) := ho
  rw [take_app a.len, drop_app a.len, a.dec, b.dec] at ho'
  match o, lo with
  | [r], _ =>
    intro q eq
    have hq := cmp_ite eq
    by_cases h : onC x y
    · have e1 : r = 1 := ho'.1 h.symm
      subst e1
      exact ⟨fun k => absurd (hq.1 k) (by decide), fun _ => h1 h⟩
    · have e0 : r = 0 := ho'.2 fun k => h k.symm
      subst e0
      exact ⟨fun _ => h0 h, fun k => (hq.2 (by decide) k).elim⟩

/-- Below the prime? -/
def belowK (x : List Int) (A B : Prop) : Prop := callK 21 1 (x ++ wP) (one1 fun s => ifK s A B)
theorem belowK_of {x : List Int} {A B : Prop} (hx : r32 x) (hl : x.length = 7) (h1 : val32 x < pI → A) (h0 : ¬ val32 x < pI → B) : belowK x A B := by
  refine callK_of (rng_append hx okP.2.2.1) fun o hlo hp => ?_
  match o, hlo with
  | [r], _ =>
    have hp' : isB [r] (val32 ((x ++ wP).take 7) < val32 ((x ++ wP).drop 7)) := hp
    rw [take_app hl, drop_app hl, show val32 wP = pI from pV] at hp'
    by_cases h : val32 x < pI
    · have e1 : r = 1 := hp'.1 h
      subst e1
      exact ifK_1 (h1 h)
    · have e0 : r = 0 := hp'.2 h
      subst e0
      exact ifK_0 (h0 h)
def belowN (x : List Int) (A B : Prop) : Prop := callK 21 1 (x ++ wP) (one1 fun s => notK s A B)
theorem belowN_of {x : List Int} {A B : Prop} (hx : r32 x) (hl : x.length = 7) (h1 : val32 x < pI → B) (h0 : ¬ val32 x < pI → A) : belowN x A B := by
  refine callK_of (rng_append hx okP.2.2.1) fun o hlo hp => ?_
  match o, hlo with
  | [r], _ =>
    have hp' : isB [r] (val32 ((x ++ wP).take 7) < val32 ((x ++ wP).drop 7)) := hp
    rw [take_app hl, drop_app hl, show val32 wP = pI from pV] at hp'
    by_cases h : val32 x < pI
    · have e1 : r = 1 := hp'.1 h
      subst e1
      exact notK_1 (h1 h)
    · have e0 : r = 0 := hp'.2 h
      subst e0
      exact notK_0 (h0 h)

def row3VC (P : List Int → Prop) (l : List Int) : Prop :=
  callK 20 7 (l.take 28) fun a => callK 20 7 (l.drop 28) fun b =>
    setU (l.take 28)
      (setU (l.drop 28) (belowK a (belowN b (P [1]) (P [0])) (P [1])) fun _ => belowK a (belowN b (P [1]) (P [0])) (P [1]))
      fun ex => setU (l.drop 28) (belowK a (belowN b (P [1]) (P [0])) (P [1])) fun ey => checkVC ex ey
        (belowK a (belowK b (onVC a b fun r => ∀ q : Int, q = (if r = 0 then 1 else 0) → P [q]) (P [0])) (P [0]))
        (belowK a (belowK b (onVC a b fun r => P [r]) (P [0])) (P [0]))
theorem row3_cond : Can.condT canRow3U Try.prog X2 tabU relsU 5 30 = inp 56 0 255 (fun l => rngs 0 255 l ((relsU 90).pre l → row3VC (fun o => (relsU 90).post l o) l)) := by kernel_rfl
theorem row3_ok : CanOk Try.prog relsU 5 canRow3U := can_of_condT hX2 hm2 (tab := tabU) tabU_ok 30 (by decide) (by
  rw [row3_cond]
  refine inp_of _ _ _ _ fun l hl => rngs_of _ _ fun hb hp => ?_
  have hr := rng_of_mem (b := 256) l hb
  have t1 : (fun o => (relsU 90).post l o) [1] := (by decide : (1 : Int) ≠ 0)
  have rx : rng 256 (l.take 28) := rng_take _ hr
  have ry : rng 256 (l.drop 28) := rng_drop _ hr
  have lx : (l.take 28).length = 28 := by simp [hl]
  have ly : (l.drop 28).length = 28 := by simp [hl]
  refine call_num fun a la ra va => call_num fun b lb rb vb => ?_
  have out : ¬ (valB (l.take 28) < pI ∧ valB (l.drop 28) < pI) → belowK a (belowN b ((fun o => (relsU 90).post l o) [1]) ((fun o => (relsU 90).post l o) [0])) ((fun o => (relsU 90).post l o) [1]) := fun h =>
    belowK_of ra la (fun ha => belowN_of rb lb (fun hb' => (h ⟨by rw [← va]; exact ha, by rw [← vb]; exact hb'⟩).elim) fun _ => t1) fun _ => t1
  refine setU_of rx lx (fun kx => setU_of ry ly (fun ky => out fun h => kx h.1) fun ky _ _ => out fun h => kx h.1) fun kx ex hx => setU_of ry ly (fun ky => out fun h => ky h.2) fun ky ey hy => ?_
  have oa : W32 a (tF (valB (l.take 28))) := ⟨la, ⟨ra, by rw [va]; exact kx⟩, by unfold dec32; rw [va]⟩
  have ob : W32 b (tF (valB (l.drop 28))) := ⟨lb, ⟨rb, by rw [vb]; exact ky⟩, by unfold dec32; rw [vb]⟩
  refine check_of hx hy (fun h => ?_) (fun h => ?_)
  · refine belowK_of ra la (fun _ => belowK_of rb lb (fun _ => on_of oa.ok ob.ok oa.len ob.len (fun _ => t1) fun k => (k (by rw [oa.dec, ob.dec]; exact h)).elim) fun k => (k ob.ok.2).elim) fun k => (k oa.ok.2).elim
  · refine belowK_of ra la (fun _ => belowK_of rb lb (fun _ => on_of oa.ok ob.ok oa.len ob.len (fun k => (h (by rw [oa.dec, ob.dec] at k; exact k)).elim) fun _ q eq => ?_) fun k => (k ob.ok.2).elim) fun k => (k oa.ok.2).elim
    rw [if_pos rfl] at eq
    rw [eq]
    exact t1)
end Go.Sx
