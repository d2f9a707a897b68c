/- ScalarMult: its law. -/
import Derived.Test.YtkjfcpeabdimmaaBaseSM
import Derived.Test.YtkjfcpeabdimmaaBaseTb
import Derived.Test.YtkjfcpeabdimmaaBaseMu
set_option linter.unusedVariables false
set_option linter.unusedSimpArgs false
set_option linter.constructorNameAsVariable false
set_option maxRecDepth 100000
set_option maxHeartbeats 4000000
namespace Go.Sx
open Go.Proofs Go.FP Go.EC
theorem rep_on {b : F} {T : Tri p} : ∀ {P : Pt p}, Rep b T P → On b P
  | none, _ => trivial
  | some (_, _), h => h.2.2.2
theorem el4_a1 {s t : List Int} (hs : s.length = 12) {j : Nat} (hj : j < 3) : el4 (s ++ t) j = el4 s j := by
  unfold el4
  rw [List.drop_append_of_le_length (by omega), List.take_append_of_le_length (by simp; omega)]
theorem el4_a2 {s t : List Int} (hs : s.length = 12) (j : Nat) : el4 (s ++ t) (3 + j) = el4 t j := by
  unfold el4
  rw [show 4 * (3 + j) = 12 + 4 * j by omega, ← List.drop_drop, drop_app hs]
theorem callS_of {id n : Nat} {i : List Int} {K : List Int → Prop} (hp : (relsSm id).pre i) (h : ∀ o : List Int, o.length = n → (relsSm id).post i o → K o) : callS id n i K := ⟨hp, alln_len n h⟩
theorem addR {s t : List Int} {P Q : Pt p} {K : List Int → Prop} (hs : PtR s P) (ht : PtR t Q) (hK : ∀ o, PtR o (asum iv P Q) → K o) : callS 63 12 (s ++ t) K := by
  obtain ⟨ls, os, rs⟩ := hs
  obtain ⟨lt, ot, rt⟩ := ht
  have a0 : el4 (s ++ t) 0 = el4 s 0 := el4_a1 ls (by decide)
  have a1 : el4 (s ++ t) 1 = el4 s 1 := el4_a1 ls (by decide)
  have a2 : el4 (s ++ t) 2 = el4 s 2 := el4_a1 ls (by decide)
  have b0 : el4 (s ++ t) 3 = el4 t 0 := el4_a2 ls 0
  have b1 : el4 (s ++ t) 4 = el4 t 1 := el4_a2 ls 1
  have b2 : el4 (s ++ t) 5 = el4 t 2 := el4_a2 ls 2
  have t1 : tri3 (s ++ t) 0 = tri3 s 0 := by simp only [tri3, Nat.zero_add, a0, a1, a2]
  have t2 : tri3 (s ++ t) 3 = tri3 t 0 := by simp only [tri3, Nat.zero_add, Nat.reduceAdd, b0, b1, b2]
  have k1 : ok3 (s ++ t) 0 := by simpa only [ok3, Nat.zero_add, a0, a1, a2] using os
  have k2 : ok3 (s ++ t) 3 := by simpa only [ok3, Nat.zero_add, Nat.reduceAdd, b0, b1, b2] using ot
  refine callS_of (show ok3 (s ++ t) 0 ∧ ok3 (s ++ t) 3 from ⟨k1, k2⟩) fun o lo ho => ?_
  obtain ⟨oo, eo⟩ : ok3 o 0 ∧ tri3 o 0 = cadd bF (tri3 (s ++ t) 0) (tri3 (s ++ t) 3) := ho
  refine hK o ⟨lo, oo, ?_⟩
  rw [eo, t1, t2]
  exact EC.rep_add good rs rt
theorem dblR {s : List Int} {P : Pt p} {K : List Int → Prop} (hs : PtR s P) (hK : ∀ o, PtR o (asum iv P P) → K o) : callS 64 12 s K := by
  obtain ⟨ls, os, rs⟩ := hs
  refine callS_of (show ok3 s 0 ∧ onT bF (tri3 s 0) from ⟨os, Rep.onT rs⟩) fun o lo ho => ?_
  obtain ⟨oo, eo⟩ : ok3 o 0 ∧ tri3 o 0 = cadd bF (tri3 s 0) (tri3 s 0) := ho
  refine hK o ⟨lo, oo, ?_⟩
  rw [eo]
  exact EC.rep_add good rs rs
theorem far12_R : PtR far12 none := by
  obtain ⟨k1, k2⟩ := tri_of elt0 eltOne elt0
  refine ⟨rfl, k1, ?_⟩
  rw [show far12 = c0 ++ eOne ++ c0 from rfl, k2]
  exact ⟨rfl, rfl, fun k => one_ne k.symm⟩
theorem flat_at : ∀ (T : List (List Int)) (k : Nat), (∀ j, j < T.length → (nth [] T j).length = 12) → k < T.length → tabAt T.flatten k = nth [] T k
  | [], k, _, hk => absurd hk (Nat.not_lt_zero k)
  | t :: T, 0, h, _ => by
    have lt : t.length = 12 := h 0 (by simp)
    show ((t ++ T.flatten).drop (12 * 0)).take 12 = t
    exact take_app lt
  | t :: T, k + 1, h, hk => by
    have lt : t.length = 12 := h 0 (by simp)
    show ((t ++ T.flatten).drop (12 * (k + 1))).take 12 = nth [] T k
    rw [show 12 * (k + 1) = 12 + 12 * k by omega, ← List.drop_drop, drop_app lt]
    exact flat_at T k (fun j hj => h (j + 1) (by simpa using hj)) (by simpa using hk)
section
theorem and_u8_15 (x : Int) : binFn .and .u8 x 15 = x % 16 := and_u8 4 (by decide) x
variable {P : Pt p} (hon : On bF P)
include hon
theorem twiceR {s : List Int} {k : Nat} {K : List Int → Prop} (hs : PtR s (nmul iv P k)) (hK : ∀ o, PtR o (nmul iv P (2 * k)) → K o) : callS 64 12 s K :=
  dblR hs fun o ho => hK o (by rw [nmul_two good hon]; exact ho)
theorem dbl4R {s : List Int} {k : Nat} {K : List Int → Prop} (hs : PtR s (nmul iv P k)) (hK : ∀ o, PtR o (nmul iv P (16 * k)) → K o) : dbl4 s K :=
  twiceR hon hs fun a ha => twiceR hon ha fun b hb => twiceR hon hb fun c hc => twiceR hon hc fun d hd => hK d (by rw [show 16 * k = 2 * (2 * (2 * (2 * k))) by omega]; exact hd)
theorem winR {T : List (List Int)} (hT : TabR P T) (lT : T.length = 15) {s : List Int} {k w : Nat} {K : List Int → Prop} (hw : w < 16) (hs : PtR s (nmul iv P k)) (hK : ∀ o, PtR o (nmul iv P (k + w)) → K o) : winVC T (w : Int) s K := by
  refine callS_of (show 0 ≤ (w : Int) ∧ (w : Int) < 16 by omega) fun t lt ht => ?_
  obtain ⟨h0, h1⟩ : ((w : Int) = 0 → t = far12) ∧ ∀ k : Nat, k < 15 → (w : Int) = (k : Int) + 1 → t = tabAt T.flatten k := ht
  have ht' : PtR t (nmul iv P w) := by
    match w, hw, h0, h1 with
    | 0, _, h0, _ =>
      rw [h0 rfl]
      exact far12_R
    | j + 1, hw, _, h1 =>
      rw [h1 j (by omega) (by omega), flat_at T j (fun i hi => (hT i hi).1) (by omega)]
      exact hT j (by omega)
  exact addR hs ht' fun o ho => hK o (by rw [nmul_add good hon]; exact ho)
theorem byteR {T : List (List Int)} (hT : TabR P T) (lT : T.length = 15) {s : List Int} {V b : Nat} {K : List Int → Prop} (hb : b < 256) (hs : PtR s (nmul iv P (16 * V))) (hK : ∀ o, PtR o (nmul iv P (V * 256 + b)) → K o) : byteVC T (b : Int) s K := by
  intro w ew
  have ew' : w = ((b / 16 : Nat) : Int) := by
    rw [ew]
    show (b : Int).fdiv (2 ^ (min (4 : Int).toNat 8)) = _
    rw [show min (4 : Int).toNat 8 = 4 from rfl, fdiv_pow]
    omega
  rw [ew']
  refine winR hon hT lT (by omega) hs fun s1 h1 => dbl4R hon h1 fun s2 h2 => ?_
  intro w2 ew2
  have ew2' : w2 = ((b % 16 : Nat) : Int) := by
    rw [ew2, and_u8_15]
    omega
  rw [ew2']
  exact winR hon hT lT (by omega) h2 fun o ho => hK o (by rw [show V * 256 + b = 16 * (16 * V + b / 16) + b % 16 by omega]; exact ho)
theorem tblR {q : List Int} (hq : PtR q P) {K : List (List Int) → Prop} (hK : ∀ T, T.length = 15 → TabR P T → K T) : ∀ (n : Nat) (T : List (List Int)), T.length + 2 * n = 15 → TabR P T → tblVC q K n T
  | 0, T, hl, hT => hK T (by omega) hT
  | n + 1, T, hl, hT => by
    refine twiceR hon (hT (T.length / 2) (by omega)) fun d hd => addR hd hq fun s hs => ?_
    have e : 2 * (T.length / 2 + 1) = T.length + 1 := by omega
    rw [e] at hd hs
    refine tblR hq hK n (T ++ [d, s]) (by simp; omega) fun j hj => ?_
    rw [List.length_append] at hj
    have hj' : j < T.length + 2 := hj
    by_cases h1 : j < T.length
    · rw [nthA h1]
      exact hT j h1
    · rw [nthD, List.getElem?_append_right (by omega)]
      by_cases h2 : j = T.length
      · subst h2
        rw [Nat.sub_self]
        exact hd
      · have e2 : j = T.length + 1 := by omega
        subst e2
        rw [show T.length + 1 - T.length = 1 by omega]
        exact hs
end
theorem byteB : ∀ {m : List Int} {i : Nat}, rng 256 m → i < m.length → 0 ≤ nth 0 m i ∧ nth 0 m i < 256
  | [], i, _, h => absurd h (Nat.not_lt_zero i)
  | a :: m, 0, h, _ => ⟨h.1, h.2.1⟩
  | a :: m, i + 1, h, hi => byteB (m := m) (i := i) h.2.2 (by simpa using hi)
theorem smR {P : Pt p} (hon : On bF P) {T : List (List Int)} (hT : TabR P T) (lT : T.length = 15) {l m : List Int} (lm : m.length = 28) (hr : rng 256 m) (hm : ∀ i, i < 28 → nth 0 l (12 + i) = nth 0 m i) {e : Nat} (he : e ≤ 28) {K : List Int → Prop} (hK : ∀ o, PtR o (nmul iv P (valB (m.take e)).toNat) → K o) :
    ∀ (n i : Nat) (s : List Int), i + n = e → PtR s (nmul iv P (valB (m.take i)).toNat) → smVC T l K n i s := by
  have hr' : rng 256 (m.take 28) := by rw [List.take_of_length_le (by omega)]; exact hr
  intro n
  induction n with
  | zero =>
    intro i s hi hs
    rw [show i = e by omega] at hs
    exact hK s hs
  | succ n ih =>
    intro i s hi hs
    refine dbl4R hon hs fun s1 h1 => ?_
    have hb := byteB hr (i := i) (by omega)
    rw [hm i (by omega)]
    rw [show nth 0 m i = (((nth 0 m i).toNat : Nat) : Int) by omega]
    refine byteR hon hT lT (by omega) h1 fun o ho => ih (i + 1) o (by omega) ?_
    rw [val_next hr' (by omega) (by omega)]
    exact ho
end Go.Sx
