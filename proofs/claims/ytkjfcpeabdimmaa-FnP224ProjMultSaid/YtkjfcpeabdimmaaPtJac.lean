/- The reference's points without quotients: the double, the sum with an affine point. -/
import Derived.Test.YtkjfcpeabdimmaaRowU
import Derived.Test.YtkjfcpeabdimmaaBaseMath
set_option linter.unusedVariables false
set_option linter.unusedSimpArgs false
set_option linter.constructorNameAsVariable false
set_option maxRecDepth 100000
set_option maxHeartbeats 4000000
namespace Go.Sx
open Go.Proofs Go.FP Go.EC
/-- An operation over words: its code (0: product, 1: sum, else: difference), the places of the result and of the inputs. -/
abbrev Wop := Nat × Nat × Nat × Nat
def wopVC (K : List (List Int) → Prop) : List Wop → List (List Int) → Prop
  | [], s => K s
  | (c, d, i, j) :: l, s => match c with
    | 0 => callK 23 7 (nth wO s i ++ nth wO s j) fun o => wopVC K l (putL s d o)
    | 1 => callK 24 7 (nth wO s i ++ nth wO s j) fun o => wopVC K l (putL s d o)
    | _ => callK 25 7 (nth wO s i ++ nth wO s j) fun o => wopVC K l (putL s d o)
def wopG {n : Nat} [NeZero n] : List Wop → List (Fin n) → List (Fin n)
  | [], s => s
  | (c, d, i, j) :: l, s => match c with
    | 0 => wopG l (putL s d (nth 0 s i * nth 0 s j))
    | 1 => wopG l (putL s d (nth 0 s i + nth 0 s j))
    | _ => wopG l (putL s d (nth 0 s i - nth 0 s j))
theorem wop_of {K : List (List Int) → Prop} : ∀ (l : List Wop) (s : List (List Int)) (f : List F), All2 W32 s f → (∀ s', All2 W32 s' (wopG l f) → K s') → wopVC K l s
  | [], s, f, hs, h => h s hs
  | (0, d, i, j) :: l, s, f, hs, h => mulW (hs.nth w32_0 i) (hs.nth w32_0 j) fun o ho => wop_of l _ _ (hs.put ho d) h
  | (1, d, i, j) :: l, s, f, hs, h => addW (hs.nth w32_0 i) (hs.nth w32_0 j) fun o ho => wop_of l _ _ (hs.put ho d) h
  | (_ + 2, d, i, j) :: l, s, f, hs, h => subW (hs.nth w32_0 i) (hs.nth w32_0 j) fun o ho => wop_of l _ _ (hs.put ho d) h
def wN (n : Int) : List Int := [n, 0, 0, 0, 0, 0, 0]
theorem w32_n {n : Int} {x : F} (h0 : 0 ≤ n) (h1 : n < 100) (hx : tF n = x) : W32 (wN n) x := by
  refine ⟨rfl, ⟨⟨h0, by omega, by decide, by decide, by decide, by decide, by decide, by decide, by decide, by decide, by decide, by decide, by decide, by decide, trivial⟩, ?_⟩, ?_⟩
  · have : pI > 100 := by decide
    simp only [val32, wN, valL]
    omega
  · unfold dec32
    rw [← hx]
    congr 1
    simp only [val32, wN, valL]
    omega
theorem w32_1 : W32 (wN 1) 1 := w32_n (by decide) (by decide) (by decide +kernel)
theorem w32_2 : W32 (wN 2) 2 := w32_n (by decide) (by decide) (by decide +kernel)
theorem w32_3' : W32 (wN 3) 3 := w32_n (by decide) (by decide) (by decide +kernel)
theorem w32_4 : W32 (wN 4) 4 := w32_n (by decide) (by decide) (by decide +kernel)
theorem w32_8 : W32 (wN 8) 8 := w32_n (by decide) (by decide) (by decide +kernel)

/-- The k-th element of seven words. -/
def w7 (l : List Int) (k : Nat) : List Int := (l.drop (7 * k)).take 7
def okJ (l : List Int) (k : Nat) : Prop := ok32 (w7 l k) ∧ ok32 (w7 l (k + 1)) ∧ ok32 (w7 l (k + 2))
def repJ (l : List Int) (k : Nat) (P : Pt p) : Prop := RepJ bF (dec32 (w7 l k)) (dec32 (w7 l (k + 1))) (dec32 (w7 l (k + 2))) P
theorem w7_of {l : List Int} {k : Nat} (h : 7 * k + 7 ≤ l.length) (ho : ok32 (w7 l k)) : W32 (w7 l k) (dec32 (w7 l k)) := ⟨by simp [w7]; omega, ho, rfl⟩
theorem w7_3 {a b c : List Int} (ha : a.length = 7) (hb : b.length = 7) (hc : c.length = 7) : w7 (a ++ b ++ c) 0 = a ∧ w7 (a ++ b ++ c) 1 = b ∧ w7 (a ++ b ++ c) 2 = c := by
  refine ⟨?_, ?_, ?_⟩
  · simp only [w7, Nat.mul_zero, List.drop_zero, List.append_assoc]
    exact take_app ha
  · simp only [w7, List.append_assoc]
    rw [drop_app (by simpa using ha), take_app hb]
  · simp only [w7]
    rw [drop_app (by simp [ha, hb]), List.take_of_length_le (by omega)]
theorem repJ_of {a b c : List Int} {x y z : F} {P : Pt p} (ha : W32 a x) (hb : W32 b y) (hc : W32 c z) (h : RepJ bF x y z P) : repJ (a ++ b ++ c) 0 P := by
  obtain ⟨e1, e2, e3⟩ := w7_3 ha.len hb.len hc.len
  unfold repJ
  rw [Nat.zero_add, Nat.zero_add, e1, e2, e3, ha.dec, hb.dec, hc.dec]
  exact h
theorem okJ_of {a b c : List Int} {x y z : F} (ha : W32 a x) (hb : W32 b y) (hc : W32 c z) : okJ (a ++ b ++ c) 0 := by
  obtain ⟨e1, e2, e3⟩ := w7_3 ha.len hb.len hc.len
  unfold okJ
  rw [Nat.zero_add, Nat.zero_add, e1, e2, e3]
  exact ⟨ha.ok, hb.ok, hc.ok⟩
def relTwice : RelSpec := { pre := fun i => okJ i 0, post := fun i o => okJ o 0 ∧ ∀ P, repJ i 0 P → repJ o 0 (asum iv P P) }
def relMoreZ : RelSpec := { pre := fun i => ok32 (w7 i 2) ∧ dec32 (w7 i 2) = 0, post := fun i o => True }
def relAskJ : RelSpec := { pre := fun _ => True, post := fun i o => isB o (dec32 (w7 i 2) = 0) }
def affQ (i : List Int) : Prop := ok32 (w7 i 3) ∧ ok32 (w7 i 4) ∧ onC (dec32 (w7 i 3)) (dec32 (w7 i 4))
def relMoreG : RelSpec := { pre := fun i => okJ i 0 ∧ dec32 (w7 i 2) ≠ 0 ∧ affQ i, post := fun i o => okJ o 0 ∧ ∀ P, repJ i 0 P → repJ o 0 (asum iv P (some (dec32 (w7 i 3), dec32 (w7 i 4)))) }
/-- 141: the double; 142, 143: the sum (not far, far); 144: is it far. -/
def relsJ (n : Nat) : RelSpec := if n = 141 then relTwice else if n = 142 then relMoreG else if n = 143 then relMoreZ else if n = 144 then relAskJ else relsF n
theorem tabJ_F : ∀ f con, (f, con) ∈ tabSpec → ConOk Try.prog relsJ f con := by
  intro f con hm
  have h0 : (tabSpec.all fun x => decide (x.2.id < 100)) = true := by decide
  have := List.all_eq_true.1 h0 _ hm
  simp only [decide_eq_true_eq] at this
  refine (tabSpec_ok f con hm).lift ?_
  unfold relsJ
  rw [if_neg (by omega), if_neg (by omega), if_neg (by omega), if_neg (by omega)]
def aJ (r k : Nat) : AV := .one (.g [.sliceC r 0 7 k, .sliceC (r + 1) 0 7 (k + 1), .sliceC (r + 2) 0 7 (k + 2)])
def aQ (r k : Nat) : AV := .one (.g [.bool false, .sliceC r 0 7 k, .sliceC (r + 1) 0 7 (k + 1)])
def eJ (r : Nat) : AV := .one (.g [.slice r 0 7 7, .slice (r + 1) 0 7 7, .slice (r + 2) 0 7 14])
def rJ (b : Nat) : List Reg := [ro (vs .i64 b 7), ro (vs .i64 (b + 7) 7), ro (vs .i64 (b + 14) 7)]
def cJ (b : Nat) : List (List Sc) := [vs .i64 b 7, vs .i64 (b + 7) 7, vs .i64 (b + 14) 7]
def cQ (b : Nat) : List (List Sc) := [vs .i64 b 7, vs .i64 (b + 7) 7]
def canTwice : Can := { id := 141, kinds := ks .i64 24, args := [crv, aJ 1 21], hp := ro fold4 :: rJ 0, outs := ks .i64 21, res := eJ 4, hpE := fold4 :: cJ 0, new := cJ 24 }
def canMoreG : Can := { id := 142, kinds := ks .i64 40, args := [crv, aJ 1 35, aQ 4 38], hp := ro fold4 :: (rJ 0 ++ (cQ 21).map ro), outs := ks .i64 21, res := eJ 6, hpE := fold4 :: (cJ 0 ++ cQ 21), new := cJ 40 }
def one7 : List Sc := [.int .i64 1, .int .i64 0, .int .i64 0, .int .i64 0, .int .i64 0, .int .i64 0, .int .i64 0]
def canMoreZ : Can := { id := 143, kinds := ks .i64 40, args := [crv, aJ 1 35, aQ 4 38], hp := ro fold4 :: (rJ 0 ++ (cQ 21).map ro), outs := [], res := .one (.g [.sliceC 4 0 7 38, .sliceC 5 0 7 39, .slice 6 0 7 7]), hpE := fold4 :: (cJ 0 ++ cQ 21), new := [one7] }
-- registers: 0 x, 1 y, 2 z, 3 delta, 4 gamma, 5 beta, 6 alpha, 7 four, 8 the result's x, 9 its y, 10-13: 3 4 8 2, 14, 15
def twOps : List Wop := [(0, 3, 2, 2), (0, 4, 1, 1), (0, 5, 0, 4), (2, 14, 0, 3), (1, 15, 0, 3), (0, 14, 14, 15), (0, 6, 10, 14), (0, 7, 11, 5), (0, 14, 6, 6), (1, 15, 7, 7), (2, 8, 14, 15), (2, 14, 7, 8), (0, 14, 6, 14), (0, 15, 4, 4), (0, 15, 12, 15), (2, 9, 14, 15), (0, 14, 1, 2), (0, 14, 13, 14)]
def twS (l : List Int) : List (List Int) := [w7 l 0, w7 l 1, w7 l 2, wO, wO, wO, wO, wO, wO, wO, wN 3, wN 4, wN 8, wN 2, wO, wO]
def twVC (Q : List Int → Prop) (l : List Int) : Prop := wopVC (fun s => Q (nth wO s 8 ++ nth wO s 9 ++ nth wO s 14)) twOps (twS l)
theorem twice_cond : Can.condT canTwice Try.prog X2 tabSpec relsJ 57 9 = inp 24 0 0 (fun l => rngs (-9223372036854775808) 9223372036854775807 l ((relsJ 141).pre l → twVC (fun o => (relsJ 141).post l o) l)) := by kernel_rfl
theorem tw_run {n : Nat} [NeZero n] (x y z : Fin n) : let s := wopG twOps [x, y, z, 0, 0, 0, 0, 0, 0, 0, 3, 4, 8, 2, 0, 0]
    nth 0 s 8 = (let d := z * z; let gm := y * y; let be := x * gm; let al := 3 * ((x - d) * (x + d)); let fo := 4 * be; al * al - (fo + fo)) ∧
    nth 0 s 9 = (let d := z * z; let gm := y * y; let be := x * gm; let al := 3 * ((x - d) * (x + d)); let fo := 4 * be; al * (fo - (al * al - (fo + fo))) - 8 * (gm * gm)) ∧ nth 0 s 14 = 2 * (y * z) := by
  simp only [twOps, wopG, putL, nth]
  exact ⟨trivial, trivial, trivial⟩
theorem twice_law {l : List Int} (hl : l.length = 24) (hp : okJ l 0) : twVC (fun o => (relsJ 141).post l o) l := by
  obtain ⟨h0, h1, h2⟩ := hp
  refine wop_of twOps (twS l) [dec32 (w7 l 0), dec32 (w7 l 1), dec32 (w7 l 2), 0, 0, 0, 0, 0, 0, 0, 3, 4, 8, 2, 0, 0]
    ⟨w7_of (by omega) h0, w7_of (by omega) h1, w7_of (by omega) h2, w32_0, w32_0, w32_0, w32_0, w32_0, w32_0, w32_0, w32_3', w32_4, w32_8, w32_2, w32_0, w32_0, trivial⟩ fun s hs => ?_
  have k1 := hs.nth w32_0 8
  have k2 := hs.nth w32_0 9
  have k3 := hs.nth w32_0 14
  obtain ⟨e1, e2, e3⟩ := tw_run (dec32 (w7 l 0)) (dec32 (w7 l 1)) (dec32 (w7 l 2))
  rw [e1] at k1
  rw [e2] at k2
  rw [e3] at k3
  exact ⟨okJ_of k1 k2 k3, fun P hP => repJ_of k1 k2 k3 (rep_jdbl good hP)⟩
theorem twice_con : ConOk Try.prog relsJ 57 canTwice.con := con_of_can (can_of_condT hX2 hm2 (tab := tabSpec) tabJ_F 9 (by decide) (by
  rw [twice_cond]
  exact inp_of _ _ _ _ fun l hl => rngs_of _ _ fun _ hp => twice_law hl hp))
def tabJ1 : List (FuncId × Con) := (57, canTwice.con) :: tabSpec
theorem tabJ1_ok : ∀ f con, (f, con) ∈ tabJ1 → ConOk Try.prog relsJ f con := tabCons twice_con tabJ_F
def callJ (id n : Nat) (i : List Int) (K : List Int → Prop) : Prop := (relsJ id).pre i ∧ alln n fun o => (relsJ id).post i o → K o
theorem callJ_of {id n : Nat} {i : List Int} {K : List Int → Prop} (hp : (relsJ id).pre i) (h : ∀ o : List Int, o.length = n → (relsJ id).post i o → K o) : callJ id n i K := ⟨hp, alln_len n h⟩
-- registers: 0 x, 1 y, 2 z, 3 X, 4 Y, 5 zz, 6 h, 7 r, 8 hh, 9 hhh, 10 v, 11 the result's x, 12, 13
def moOps1 : List Wop := [(0, 5, 2, 2), (0, 12, 3, 5), (2, 6, 12, 0), (0, 12, 2, 5), (0, 12, 4, 12), (2, 7, 12, 1)]
def moOps2 : List Wop := [(0, 8, 6, 6), (0, 9, 6, 8), (0, 10, 0, 8), (0, 12, 7, 7), (2, 12, 12, 9), (1, 13, 10, 10), (2, 11, 12, 13), (2, 12, 10, 11), (0, 12, 7, 12), (0, 13, 1, 9), (2, 12, 12, 13), (0, 13, 2, 6)]
def moS (l : List Int) : List (List Int) := [w7 l 0, w7 l 1, w7 l 2, w7 l 3, w7 l 4, wO, wO, wO, wO, wO, wO, wO, wO, wO]
def moRest (Q : List Int → Prop) (s : List (List Int)) : Prop := wopVC (fun s => Q (nth wO s 11 ++ nth wO s 12 ++ nth wO s 13)) moOps2 s
def moVC (A : Prop) (Q : List Int → Prop) (l : List Int) : Prop := sameK (w7 l 2) wO A
  (wopVC (fun s => sameK (nth wO s 6) wO (sameK (nth wO s 7) wO (callJ 141 21 (l.take 21 ++ (l.drop 35).take 3) Q) (moRest Q s)) (moRest Q s)) moOps1 (moS l))
theorem moreG_cond : Can.condT canMoreG Try.prog X2 tabJ1 relsJ 58 9 = inp 40 0 0 (fun l => rngs (-9223372036854775808) 9223372036854775807 l ((relsJ 142).pre l → moVC False (fun o => (relsJ 142).post l o) l)) := by kernel_rfl
theorem moreZ_cond : Can.condT canMoreZ Try.prog X2 tabJ1 relsJ 58 9 = inp 40 0 0 (fun l => rngs (-9223372036854775808) 9223372036854775807 l ((relsJ 143).pre l → moVC ((relsJ 143).post l []) (fun _ => False) l)) := by kernel_rfl
theorem mo_run1 {n : Nat} [NeZero n] (x y z X Y : Fin n) : let s := wopG moOps1 [x, y, z, X, Y, 0, 0, 0, 0, 0, 0, 0, 0, 0]
    nth 0 s 6 = X * (z * z) - x ∧ nth 0 s 7 = Y * (z * (z * z)) - y := by
  simp only [moOps1, wopG, putL, nth]
  exact ⟨trivial, trivial⟩
theorem mo_run2 {n : Nat} [NeZero n] (x y z X Y : Fin n) : let s := wopG moOps2 (wopG moOps1 [x, y, z, X, Y, 0, 0, 0, 0, 0, 0, 0, 0, 0])
    nth 0 s 11 = (let h := X * (z * z) - x; let r := Y * (z * (z * z)) - y; let hh := h * h; let v := x * hh; r * r - h * hh - (v + v)) ∧
    nth 0 s 12 = (let h := X * (z * z) - x; let r := Y * (z * (z * z)) - y; let hh := h * h; let v := x * hh; r * (v - (r * r - h * hh - (v + v))) - y * (h * hh)) ∧ nth 0 s 13 = z * (X * (z * z) - x) := by
  simp only [moOps1, moOps2, wopG, putL, nth]
  exact ⟨trivial, trivial, trivial⟩
theorem w7_take {l z : List Int} {k m : Nat} (h : 7 * k + 7 ≤ m) (hl : m ≤ l.length) : w7 (l.take m ++ z) k = w7 l k := by
  simp only [w7]
  rw [List.drop_append_of_le_length (by simp; omega), List.take_append_of_le_length (by simp; omega), List.drop_take, List.take_take]
  congr 1
  omega
theorem moreG_law {l : List Int} (hl : l.length = 40) (hp : okJ l 0 ∧ dec32 (w7 l 2) ≠ 0 ∧ affQ l) : moVC False (fun o => (relsJ 142).post l o) l := by
  obtain ⟨⟨h0, h1, h2⟩, hz, h3, h4, hon⟩ := hp
  have a0 := w7_of (by omega) h0
  have a1 := w7_of (by omega) h1
  have a2 := w7_of (by omega) h2
  have a3 := w7_of (by omega) h3
  have a4 := w7_of (by omega) h4
  refine sameK_of a2 w32_0 (fun e => (hz e).elim) fun _ => ?_
  refine wop_of moOps1 (moS l) [dec32 (w7 l 0), dec32 (w7 l 1), dec32 (w7 l 2), dec32 (w7 l 3), dec32 (w7 l 4), 0, 0, 0, 0, 0, 0, 0, 0, 0] ⟨a0, a1, a2, a3, a4, w32_0, w32_0, w32_0, w32_0, w32_0, w32_0, w32_0, w32_0, w32_0, trivial⟩ fun s hs => ?_
  have k6 := hs.nth w32_0 6
  have k7 := hs.nth w32_0 7
  obtain ⟨e6, e7⟩ := mo_run1 (dec32 (w7 l 0)) (dec32 (w7 l 1)) (dec32 (w7 l 2)) (dec32 (w7 l 3)) (dec32 (w7 l 4))
  rw [e6] at k6
  rw [e7] at k7
  have rest : ¬ (dec32 (w7 l 3) * (dec32 (w7 l 2) * dec32 (w7 l 2)) - dec32 (w7 l 0) = 0 ∧ dec32 (w7 l 4) * (dec32 (w7 l 2) * (dec32 (w7 l 2) * dec32 (w7 l 2))) - dec32 (w7 l 1) = 0) → moRest (fun o => (relsJ 142).post l o) s := fun hn => by
    refine wop_of moOps2 s _ hs fun s' hs' => ?_
    have k1 := hs'.nth w32_0 11
    have k2 := hs'.nth w32_0 12
    have k3 := hs'.nth w32_0 13
    obtain ⟨e1, e2, e3⟩ := mo_run2 (dec32 (w7 l 0)) (dec32 (w7 l 1)) (dec32 (w7 l 2)) (dec32 (w7 l 3)) (dec32 (w7 l 4))
    rw [e1] at k1
    rw [e2] at k2
    rw [e3] at k3
    exact ⟨okJ_of k1 k2 k3, fun P hP => repJ_of k1 k2 k3 ((rep_jadd good hP hz hon).2 hn)⟩
  refine sameK_of k6 w32_0 (fun e6 => sameK_of k7 w32_0 (fun e7 => ?_) fun n7 => rest fun k => n7 k.2) fun n6 => rest fun k => n6 k.1
  have t0 : w7 (l.take 21 ++ (l.drop 35).take 3) 0 = w7 l 0 := w7_take (by omega) (by omega)
  have t1 : w7 (l.take 21 ++ (l.drop 35).take 3) 1 = w7 l 1 := w7_take (by omega) (by omega)
  have t2 : w7 (l.take 21 ++ (l.drop 35).take 3) 2 = w7 l 2 := w7_take (by omega) (by omega)
  refine callJ_of ⟨by rw [t0]; exact h0, by rw [t1]; exact h1, by rw [t2]; exact h2⟩ fun o lo ho => ?_
  obtain ⟨oo, ro⟩ : okJ o 0 ∧ ∀ P, repJ (l.take 21 ++ (l.drop 35).take 3) 0 P → repJ o 0 (asum iv P P) := ho
  refine ⟨oo, fun P hP => ?_⟩
  have eP := (rep_jadd good hP hz hon).1 e6 e7
  have := ro P (by unfold repJ; rw [Nat.zero_add, Nat.zero_add, t0, t1, t2]; exact hP)
  rw [eP] at this ⊢
  exact this
theorem moreG_con : ConOk Try.prog relsJ 58 canMoreG.con := con_of_can (can_of_condT hX2 hm2 (tab := tabJ1) tabJ1_ok 9 (by decide) (by
  rw [moreG_cond]
  exact inp_of _ _ _ _ fun l hl => rngs_of _ _ fun _ hp => moreG_law hl hp))
theorem moreZ_con : ConOk Try.prog relsJ 58 canMoreZ.con := con_of_can (can_of_condT hX2 hm2 (tab := tabJ1) tabJ1_ok 9 (by decide) (by
  rw [moreZ_cond]
  refine inp_of _ _ _ _ fun l hl => rngs_of _ _ fun _ hp => ?_
  have hz : dec32 (w7 l 2) = 0 := hp.2
  exact sameK_of (w7_of (by omega) hp.1) w32_0 (fun _ => trivial) fun k => (k hz).elim))
def tabJac : List (FuncId × Con) := [(57, canTwice.con), (58, canMoreZ.askc 144), (58, canMoreZ.con), (58, canMoreG.con)]
theorem tabJac_ok : ∀ f con, (f, con) ∈ tabJac → ConOk Try.prog relsJ f con := tabCons twice_con (tabCons (ask_ok (askB fun i => dec32 (w7 i 2) = 0)) (tabCons moreZ_con (tabCons moreG_con (fun f con h => by cases h))))
end Go.Sx
