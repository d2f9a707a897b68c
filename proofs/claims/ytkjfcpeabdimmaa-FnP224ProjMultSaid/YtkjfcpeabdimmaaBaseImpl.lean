/- impl.P224ProjMult: its contract. -/
import Derived.Test.YtkjfcpeabdimmaaPtSM5
import Derived.Test.YtkjfcpeabdimmaaBaseMu
import Derived.Test.YtkjfcpeabdimmaaBaseTri
set_option linter.unusedVariables false
set_option linter.unusedSimpArgs false
set_option linter.constructorNameAsVariable false
set_option maxRecDepth 100000
set_option maxHeartbeats 4000000
namespace Go.Sx
open Go.Proofs Go.FP Go.EC
/-- 191: impl.P224ProjMult at three coordinates of a point. -/
def relImpl : RelSpec := { pre := fun l => rng 256 l ∧ ∃ P, RepB (l.take 84) P, post := fun l o => rng 256 o ∧ ∀ P, RepB (l.take 84) P → RepB o (nmul iv P (valB (l.drop 84)).toNat) }
/-- 145, 146, 147: the reference's multiple; 190: the row. -/
def rels6 (n : Nat) : RelSpec := if n = 145 then relMFin else if n = 146 then relMAsk else if n = 147 then relMFar else if n = 190 then relRow else if n = 191 then relImpl else relsSm n
def canRow6 : Can := { id := 190, kinds := ks .u8 112, args := [agg3, .one (.g (vs .u8 84 28))], hp := [], outs := [.u8], res := .one (.s (.boolv 112)), hpE := [], new := [] }
def tab6 : List (FuncId × Con) := (55, canSM.con) :: (tabMult ++ tabT3)
def call6 (id n : Nat) (i : List Int) (K : List Int → Prop) : Prop := (rels6 id).pre i ∧ alln n fun o => (rels6 id).post i o → K o
def canImpl : Can := { id := 191, kinds := ks .u8 112, args := [agg3, .one (.s (.sliceU 0 0 28))], hp := [ro (vs .u8 84 28)], outs := ks .u8 84, res := .tup [.g (vs .u8 112 84), .s (.bool true)], hpE := [vs .u8 84 28], new := [] }
def reps : Nat → Prop → Prop
  | 0, A => A
  | n + 1, A => A ∧ reps n A
theorem impl_cond : Can.condT canImpl Try.prog X2 tab6 rels6 30 30 = inp 112 0 255 (fun l => rngs 0 255 l ((rels6 191).pre l → proj3 (l.take 84) False fun e => reps 0 (call6 152 12 (e ++ l.drop 84) fun o => tell3 o fun g => (rels6 191).post l g))) := by kernel_rfl
theorem impl_law {l : List Int} (hl : l.length = 112) (hp : (rels6 191).pre l) : proj3 (l.take 84) False fun e => reps 0 (call6 152 12 (e ++ l.drop 84) fun o => tell3 o fun g => (rels6 191).post l g) := by
  obtain ⟨hr, P, hP⟩ : rng 256 l ∧ ∃ P, RepB (l.take 84) P := hp
  refine proj3_of (rng_take _ hr) (by simp; omega) hP.1 fun e le oe te => ?_
  have a0 : el4 (e ++ l.drop 84) 0 = el4 e 0 := el4_a1 le (by decide)
  have a1 : el4 (e ++ l.drop 84) 1 = el4 e 1 := el4_a1 le (by decide)
  have a2 : el4 (e ++ l.drop 84) 2 = el4 e 2 := el4_a1 le (by decide)
  have t1 : tri3 (e ++ l.drop 84) 0 = tri3 e 0 := by simp only [tri3, Nat.zero_add, a0, a1, a2]
  have k1 : ok3 (e ++ l.drop 84) 0 := by simpa only [ok3, Nat.zero_add, a0, a1, a2] using oe
  have d1 : (e ++ l.drop 84).drop 12 = l.drop 84 := drop_app le
  have hP2 : Rep bF (tri3 (e ++ l.drop 84) 0) P := by rw [t1, te]; exact hP.2
  refine ⟨(show smPre (e ++ l.drop 84) from ⟨by rw [d1]; exact rng_drop _ hr, k1, P, hP2⟩), alln_len _ fun o lo ho => ?_⟩
  obtain ⟨oo, ro⟩ : ok3 o 0 ∧ ∀ P, Rep bF (tri3 (e ++ l.drop 84) 0) P → Rep bF (tri3 o 0) (nmul iv P (valB ((e ++ l.drop 84).drop 12)).toNat) := ho
  rw [d1] at ro
  refine tell3_of oo fun g lg rg ig tg => ⟨rg, fun Q hQ => ⟨ig, ?_⟩⟩
  rw [tg]
  refine ro Q ?_
  rw [t1, te]
  exact hQ.2
/-- The old contracts, under the newest relations. -/
theorem tabT3_6 : ∀ f con, (f, con) ∈ tabT3 → ConOk Try.prog rels6 f con := by
  intro f con hm
  have h0 : (tabT3.all fun x => decide (x.2.id < 70) && x.2.id != 68) = true := by decide
  have := List.all_eq_true.1 h0 _ hm
  simp only [Bool.and_eq_true, decide_eq_true_eq, bne_iff_ne, ne_eq] at this
  obtain ⟨h1, h2⟩ := this
  refine (tabT3_ok f con hm).lift ?_
  generalize con.id = n at h1 h2
  have e : ∀ n, n < 70 → n ≠ 68 → rels6 n = relsT n := by
    intro n h1 h2
    have ne : ∀ k, 70 ≤ k → n ≠ k := fun k hk => by omega
    simp only [rels6, relsSm, relsTb, relsL, relsWr, relsR4, relsR3, relsR2, relsD, relsS, relsE, relsU, h2, ne 145 (by decide), ne 146 (by decide), ne 147 (by decide), ne 190 (by decide), ne 191 (by decide), ne 152 (by decide), ne 1153 (by decide), ne 1154 (by decide), ne 1155 (by decide), ne 1156 (by decide), ne 1157 (by decide), ne 150 (by decide), ne 151 (by decide), ne 123 (by decide), ne 120 (by decide), ne 121 (by decide), ne 124 (by decide), ne 125 (by decide), ne 126 (by decide), ne 127 (by decide), ne 98 (by decide), ne 99 (by decide), ne 101 (by decide), ne 102 (by decide), ne 100 (by decide), ne 91 (by decide), ne 92 (by decide), ne 86 (by decide), ne 87 (by decide), ne 88 (by decide), ne 89 (by decide), ne 93 (by decide), ne 80 (by decide), ne 81 (by decide), ne 82 (by decide), ne 83 (by decide), ne 84 (by decide), ne 85 (by decide), ne 71 (by decide), ne 72 (by decide), ne 73 (by decide), ne 74 (by decide), if_false]
  exact e n h1 h2
theorem tabMult_6 : ∀ f con, (f, con) ∈ tabMult → ConOk Try.prog rels6 f con :=
  tabCons (ask_ok (askB fun i => mTot i = none)) (tabCons (multFar_con.lift rfl) (tabCons (multFin_con.lift rfl) (fun f con h => by cases h)))
theorem tab6_ok : ∀ f con, (f, con) ∈ tab6 → ConOk Try.prog rels6 f con := tabCons (sm_con.lift rfl) (tabApp tabMult_6 tabT3_6)
theorem impl_con : ConOk Try.prog rels6 30 canImpl.con := con_of_can (can_of_condT hX2 hm2 (tab := tab6) tab6_ok 30 (by decide) (by
  rw [impl_cond]
  exact inp_of _ _ _ _ fun l hl => rngs_of _ _ fun _ hp => impl_law hl hp))
end Go.Sx

/- Row FnP224ProjMult: the answer is true. -/
set_option maxRecDepth 100000
set_option maxHeartbeats 4000000
namespace Go.Sx
open Go.Proofs Go.FP Go.EC
def tabR6 : List (FuncId × Con) := (30, canImpl.con) :: (tabMult ++ tabT3)
theorem tabR6_ok : ∀ f con, (f, con) ∈ tabR6 → ConOk Try.prog rels6 f con := tabCons impl_con (tabApp tabMult_6 tabT3_6)
def mIn (l X Y : List Int) : List Int := l.drop 84 ++ (X ++ (Y ++ [14, 14]))
def fin6VC (P : List Int → Prop) (l X Y g : List Int) : Prop :=
  call6 146 1 (mIn l X Y) (one1 fun q => ifK q (call6 147 0 (mIn l X Y) fun _ => isFarVC P g) (call6 145 14 (mIn l X Y) fun o => isFinVC P g (o.take 7) (o.drop 7)))
def row6VC (m n : Nat) (P : List Int → Prop) (l : List Int) : Prop :=
  affK (l.take 84) (P [1]) (fun r => notK r (P [1]) (reps m (call6 191 84 l (isFarVC P))))
    (fun X Y r => notK r (P [1]) (reps n (call6 191 84 l (fin6VC P l X Y))))
theorem row6_cond : Can.condT canRow6 Try.prog X2 tabR6 rels6 7 30 = inp 112 0 255 (fun l => rngs 0 255 l ((rels6 190).pre l → row6VC 1 1 (fun o => (rels6 190).post l o) l)) := by kernel_rfl
theorem reps_of {A : Prop} (h : A) : ∀ n, reps n A
  | 0 => h
  | n + 1 => ⟨h, reps_of h n⟩
theorem call6_of {id n : Nat} {i : List Int} {K : List Int → Prop} (hp : (rels6 id).pre i) (h : ∀ o : List Int, o.length = n → (rels6 id).post i o → K o) : call6 id n i K := ⟨hp, alln_len n h⟩
theorem impl6 {l : List Int} {P : Pt p} {K : List Int → Prop} (hr : rng 256 l) (h : RepB (l.take 84) P) (hK : ∀ g : List Int, RepB g (nmul iv P (valB (l.drop 84)).toNat) → K g) : call6 191 84 l K :=
  call6_of (show relImpl.pre l from ⟨hr, P, h⟩) fun g lg hg => by
    obtain ⟨_, hg'⟩ : rng 256 g ∧ ∀ P, RepB (l.take 84) P → RepB g (nmul iv P (valB (l.drop 84)).toNat) := hg
    exact hK g (hg' P h)
theorem ask6 {l : List Int} {A B : Prop} (h1 : mTot l = none → A) (h0 : mTot l ≠ none → B) : call6 146 1 l (one1 fun q => ifK q A B) := by
  refine call6_of trivial fun o lo ho => ?_
  have ho' : isB o (mTot l = none) := ho
  match o, lo with
  | [r], _ =>
    by_cases h : mTot l = none
    · have e1 : r = 1 := ho'.1 h
      subst e1
      exact ifK_1 (h1 h)
    · have e0 : r = 0 := ho'.2 h
      subst e0
      exact ifK_0 (h0 h)
theorem mIn_ok {l X Y : List Int} {x y : F} (hl : l.length = 112) (hr : rng 256 l) (wX : W32 X x) (wY : W32 Y y) (hon : On bF (some (x, y))) :
    mOk (mIn l X Y) ∧ mTot (mIn l X Y) = nmul iv (some (x, y)) (valB (l.drop 84)).toNat := by
  have l0 : (l.drop 84).length = 28 := by simp [hl]
  have h0 : (mIn l X Y).take 28 = l.drop 84 := take_app l0
  have h1 : (mIn l X Y).drop 28 = X ++ (Y ++ [14, 14]) := drop_app l0
  have h2 : ((mIn l X Y).drop 28).take 7 = X := by rw [h1, take_app wX.len]
  have h3 : (mIn l X Y).drop 35 = Y ++ [14, 14] := by rw [show (35 : Nat) = 28 + 7 from rfl, ← List.drop_drop, h1, drop_app wX.len]
  have h4 : ((mIn l X Y).drop 35).take 7 = Y := by rw [h3, take_app wY.len]
  refine ⟨?_, ?_⟩
  · unfold mOk
    rw [h0, h2, h4, wX.dec, wY.dec]
    exact ⟨rng_drop _ hr, wX.ok, wY.ok, hon⟩
  · unfold mTot mP
    rw [h0, h2, h4, wX.dec, wY.dec]
theorem fin6_of {P : List Int → Prop} {l X Y g : List Int} {x y : F} (hl : l.length = 112) (hr : rng 256 l) (wX : W32 X x) (wY : W32 Y y) (hon : On bF (some (x, y)))
    (hg : RepB g (nmul iv (some (x, y)) (valB (l.drop 84)).toNat)) (h1 : P [1]) : fin6VC P l X Y g := by
  obtain ⟨mo, mt⟩ := mIn_ok hl hr wX wY hon
  refine ask6 (fun h => call6_of ⟨mo, h⟩ fun _ _ _ => isPt_far hg (by rw [← mt]; exact h) h1) fun h => call6_of ⟨mo, h⟩ fun o lo ho => ?_
  obtain ⟨o0, o1, e⟩ : ok32 (w7 o 0) ∧ ok32 (w7 o 1) ∧ mTot (mIn l X Y) = some (dec32 (w7 o 0), dec32 (w7 o 1)) := ho
  have l0 : (o.take 7).length = 7 := by simp [lo]
  have l1 : (o.drop 7).length = 7 := by simp [lo]
  have e0 : w7 o 0 = o.take 7 := rfl
  have e1 : w7 o 1 = o.drop 7 := by
    show (o.drop 7).take 7 = o.drop 7
    rw [List.take_of_length_le (by omega)]
  rw [e0] at o0
  rw [e1] at o1
  rw [e0, e1, mt] at e
  exact isPt_fin hg e ⟨l0, o0, rfl⟩ ⟨l1, o1, rfl⟩ h1
theorem row6_law {m n : Nat} {P : List Int → Prop} {l : List Int} (hl : l.length = 112) (hr : rng 256 l) (t1 : P [1]) : row6VC m n P l := by
  refine affK_of (fun h => ⟨t1, notK_0 t1, fun X Y x y _ _ => notK_0 t1⟩) (fun h => notK_1 (reps_of (impl6 hr h fun g hg => ?_) m)) (fun x y X Y h wX wY => notK_1 (reps_of (impl6 hr h fun g hg => ?_) n))
  · exact isPt_far hg (nmul_none _) t1
  · exact fin6_of hl hr wX wY h.on hg t1
theorem row6_ok : CanOk Try.prog rels6 7 canRow6 := can_of_condT hX2 hm2 (tab := tabR6) tabR6_ok 30 (by decide) (by
  rw [row6_cond]
  refine inp_of _ _ _ _ fun l hl => rngs_of _ _ fun hb hp => ?_
  exact row6_law hl (rng_of_mem (b := 256) l hb) (show (fun o => (rels6 190).post l o) [1] from (by decide : (1 : Int) ≠ 0)))
end Go.Sx
