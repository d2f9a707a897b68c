/- The candidate for a square root: what its run owes, in plain Lean. -/
import Derived.Test.YtkjfcpeabdimmaaPtSel
import Derived.Test.YtkjfcpeabdimmaaSqMath
import Derived.Test.YtkjfcpeabdimmaaSxSeg2
set_option linter.unusedVariables false
set_option linter.unusedSimpArgs false
set_option linter.constructorNameAsVariable false
set_option maxRecDepth 100000
set_option maxHeartbeats 4000000
namespace Go.Sx
open Go.Proofs Go.FP Go.EC
/-- The inner loop: how often it runs, v, how often it has run, w. -/
def loopInv (l : List Int) : Prop := 0 ≤ nth 0 l 5 ∧ nth 0 l 5 ≤ nth 0 l 0 ∧ nth 0 l 0 ≤ 100 ∧ ok64 ((l.drop 1).take 4) ∧ ok64 (l.drop 6) ∧ dec64 (l.drop 6) = sqn (dec64 ((l.drop 1).take 4)) (nth 0 l 5).toNat
def loopMu (l : List Int) : Nat := (nth 0 l 0 - nth 0 l 5).toNat
def relLoop : RelSpec := { pre := loopInv, post := fun i o => loopInv (i.take 5 ++ o) }
def relNext : RelSpec := { pre := fun l => loopInv (l.take 5 ++ l.drop 10) ∧ loopMu (l.take 5 ++ l.drop 10) < loopMu (l.take 5 ++ (l.drop 5).take 5), post := fun _ _ => False }
def isSq (i : List Int) : Prop := ok64 i ∧ ∃ s : F, dec64 i = s * s
def relSet : RelSpec := { pre := fun i => rng 256 i ∧ valB i < pI, post := fun i o => ok64 o ∧ dec64 o = tF (valB i) }
/-- At the head of the rounds, the exponent i: x, r, the powers of the constant from 95 - i on, v, -1. -/
def midInv (i : Nat) (l : List Int) : Prop := isSq (el4 l 0) ∧ (∀ j, j < i + 1 → Elt (el4 l (2 + j)) (sqn gF (95 - i + j))) ∧ (∃ a, Elt (el4 l 1) a ∧ ∃ c, Elt (el4 l (2 + (i + 1))) c ∧ RootInv (dec64 (el4 l 0)) i a c) ∧ Elt (el4 l (3 + (i + 1))) (0 - 1)
def relMid (i : Nat) : RelSpec := { pre := midInv i, post := fun _ _ => False }
/-- 1133: where the rounds start; 131: the candidate for a root; 129: the root; 130, 1130: the loop; 132: bytes below the prime. -/
def relRoot : RelSpec := { pre := isSq, post := fun i o => ok64 o ∧ dec64 o * dec64 o = dec64 i }
def relsQ2 (n : Nat) : RelSpec := if n = 130 then relLoop else if n = 1130 then relNext else if n = 131 then relRoot else if n = 129 then relRoot else if n = 132 then relSet else if n = 1133 then relMid 95 else if n = 1134 then relMid 64 else if n = 1135 then relMid 32 else relsL n
theorem cut130 : CutOk relsQ2 5 5 130 := by
  refine ⟨loopMu, fun a i o ha hi ho h => ?_, fun a h i ha hh hi hp => ?_⟩
  · show loopInv ((a ++ i).take 5 ++ o)
    rw [take_app ha]
    exact h
  · obtain ⟨h1, h2⟩ : loopInv ((a ++ (h ++ i)).take 5 ++ (a ++ (h ++ i)).drop 10) ∧ loopMu ((a ++ (h ++ i)).take 5 ++ (a ++ (h ++ i)).drop 10) < loopMu ((a ++ (h ++ i)).take 5 ++ ((a ++ (h ++ i)).drop 5).take 5) := hp
    have e1 : (a ++ (h ++ i)).take 5 = a := take_app ha
    have e2 : (a ++ (h ++ i)).drop 5 = h ++ i := drop_app ha
    have e3 : (a ++ (h ++ i)).drop 10 = i := by rw [show (10 : Nat) = 5 + 5 from rfl, ← List.drop_drop, e2, drop_app hh]
    rw [e1, e3] at h1
    rw [e1, e2, e3, take_app hh] at h2
    exact ⟨h1, h2⟩
def callZ (id n : Nat) (i : List Int) (K : List Int → Prop) : Prop := (relsQ2 id).pre i ∧ alln n fun o => (relsQ2 id).post i o → K o
theorem callZ_of {id n : Nat} {i : List Int} {K : List Int → Prop} (hp : (relsQ2 id).pre i) (h : ∀ o : List Int, o.length = n → (relsQ2 id).post i o → K o) : callZ id n i K := ⟨hp, alln_len n h⟩
def wMul (K : List Int → Prop) (a b : List Int) : Prop := callK 6 4 (a ++ b) K
/-- Is the first number less? -/
def lessK (x n : Int) (A B : Prop) : Prop := ∀ r : Int, r = (if cmpFn .lss x n = true then 1 else 0) → (r ≠ 0 → A) ∧ (r = 0 → B)
theorem lessK_of {x n : Int} {A B : Prop} (h1 : x < n → A) (h0 : ¬ x < n → B) : lessK x n A B := by
  intro r er
  have hr := cmp_ite er
  refine ⟨fun h => h1 ?_, fun h => h0 fun e => ?_⟩
  · have := hr.1 h
    simpa [cmpFn] using this
  · exact hr.2 (by simpa [cmpFn] using e) h
/-- Squares of squares, up to m times. -/
def loopK (m : Int) (v : List Int) (K : List Int → Prop) : Prop :=
  callZ 130 5 ((m :: v) ++ (0 :: v)) fun h => lessK (nth 0 h 0) m
    (callK 7 4 (h.drop 1) fun o => binR .add .i64 (nth 0 h 0) 1 fun j => callZ 1130 0 ((m :: v) ++ (h ++ (j :: o))) fun _ => False) (K (h.drop 1))
/-- One round: the exponent i, the powers g and h of the constant, what -1 is. -/
def roundK (i : Int) (g h m1 r v : List Int) (K : List Int → List Int → Prop) : Prop :=
  loopK (i - 1) v fun w => callU 15 1 (w ++ m1) (one1 fun c => callK 6 4 (v ++ g) fun a => callL 123 4 (c :: (v ++ a)) fun v' => callK 6 4 (r ++ h) fun b => callL 123 4 (c :: (r ++ b)) fun r' => K r' v')
theorem loopK_of {m : Nat} {v : List Int} {x : F} {K : List Int → Prop} (hm : m ≤ 100) (hv : Elt v x) (h : ∀ w, Elt w (sqn x m) → K w) : loopK (m : Int) v K := by
  have t5 : ∀ r : List Int, (((m : Int) :: v) ++ r).take 5 = (m : Int) :: v := fun r => take_app (by simp [hv.len])
  have d5 : ∀ r : List Int, (((m : Int) :: v) ++ r).drop 5 = r := fun r => drop_app (by simp [hv.len])
  have n0 : ∀ r : List Int, nth 0 (((m : Int) :: v) ++ r) 0 = m := fun r => rfl
  have n5 : ∀ (z : Int) (r : List Int), nth 0 (((m : Int) :: v) ++ (z :: r)) 5 = z := fun z r => by
    match v, hv.len with
    | [_, _, _, _], _ => rfl
  have d6 : ∀ (z : Int) (r : List Int), (((m : Int) :: v) ++ (z :: r)).drop 6 = r := fun z r => by
    match v, hv.len with
    | [_, _, _, _], _ => rfl
  have v4 : ∀ r : List Int, ((((m : Int) :: v) ++ r).drop 1).take 4 = v := fun r => by
    rw [List.cons_append, List.drop_succ_cons, List.drop_zero, take_app hv.len]
  have inv : ∀ (z : Int) (w : List Int), loopInv (((m : Int) :: v) ++ (z :: w)) ↔ 0 ≤ z ∧ z ≤ m ∧ (m : Int) ≤ 100 ∧ ok64 v ∧ ok64 w ∧ dec64 w = sqn (dec64 v) z.toNat := fun z w => by
    unfold loopInv
    rw [n5, n0, v4, d6]
  refine callZ_of ((inv 0 v).2 ⟨by omega, by omega, by omega, hv.ok, hv.ok, rfl⟩) fun o lo ho => ?_
  have ho' : loopInv ((((m : Int) :: v) ++ (0 :: v)).take 5 ++ o) := ho
  rw [t5] at ho'
  match o, lo with
  | z :: w, lo =>
    have lw : w.length = 4 := by simpa using lo
    obtain ⟨z0, zm, _, _, ow, dw⟩ := (inv z w).1 ho'
    have hw : Elt w (sqn x z.toNat) := ⟨lw, ow, by rw [dw, hv.dec]⟩
    refine lessK_of (fun hlt' => ?_) fun hge' => ?_
    · have hlt : z < m := hlt'
      refine call4_1 7 (fun a => a * a) rfl hw fun e he => binR_of ?_
      have ez : binFn .add .i64 z 1 = z + 1 := add_i64 _ _ (by omega) (by omega)
      show callZ 1130 0 (((m : Int) :: v) ++ ((z :: w) ++ (binFn .add .i64 z 1 :: e))) fun _ => False
      rw [ez]
      have p1 : (((m : Int) :: v) ++ ((z :: w) ++ ((z + 1) :: e))).drop 10 = (z + 1) :: e := by
        rw [show (10 : Nat) = 5 + 5 from rfl, ← List.drop_drop, d5, drop_app (by simp [lw])]
      have p2 : ((((m : Int) :: v) ++ ((z :: w) ++ ((z + 1) :: e))).drop 5).take 5 = z :: w := by
        rw [d5, take_app (by simp [lw])]
      have hnext : (relsQ2 1130).pre (((m : Int) :: v) ++ ((z :: w) ++ ((z + 1) :: e))) := by
        show loopInv _ ∧ loopMu _ < loopMu _
        rw [t5, p1, p2]
        refine ⟨(inv (z + 1) e).2 ⟨by omega, by omega, by omega, hv.ok, he.ok, ?_⟩, ?_⟩
        · rw [he.dec, hv.dec, show (z + 1).toNat = z.toNat + 1 by omega, sqn]
        · unfold loopMu
          rw [n0, n5, n0, n5]
          omega
      exact ⟨hnext, fun h => h⟩
    · have hge : ¬ z < (m : Int) := hge'
      have : z.toNat = m := by omega
      rw [this] at hw
      exact h w hw
theorem roundK_of {i : Nat} (hi : i < 95) {g h m1 r v : List Int} {x a c : F} {K : List Int → List Int → Prop} (hg : Elt g (sqn gF (95 - i))) (hh : Elt h (sqn gF (94 - i))) (hm : Elt m1 (0 - 1)) (hr : Elt r a) (hv : Elt v c) (hI : RootInv x (i + 1) a c)
    (hK : ∀ r' v' a' c', Elt r' a' → Elt v' c' → RootInv x i a' c' → K r' v') : roundK ((i + 1 : Nat) : Int) g h m1 r v K := by
  have e : ((i + 1 : Nat) : Int) - 1 = (i : Int) := by omega
  unfold roundK
  rw [e]
  obtain ⟨s1, s0⟩ := hI.step hi
  refine loopK_of (by omega) hv fun w hw => callU_of ⟨by rw [take_app hw.len]; exact hw.ok, by rw [drop_app hw.len]; exact hm.ok⟩ fun o lo ho => ?_
  have ho' : isB o (dec64 ((w ++ m1).take 4) = dec64 ((w ++ m1).drop 4)) := ho
  rw [take_app hw.len, drop_app hw.len, hw.dec, hm.dec] at ho'
  match o, lo with
  | [q], _ =>
    by_cases hq : sqn c i = 0 - 1
    · have e1 : q = 1 := ho'.1 hq
      subst e1
      exact call4_2 6 (fun a b => a * b) rfl hv hg fun A hA => sel_of (.inr rfl) hv hA (fun k => absurd k (by decide)) fun _ v' hv' => call4_2 6 (fun a b => a * b) rfl hr hh fun B hB => sel_of (.inr rfl) hr hB (fun k => absurd k (by decide)) fun _ r' hr' => hK r' v' _ _ hr' hv' (s1 hq)
    · have e0 : q = 0 := ho'.2 hq
      subst e0
      exact call4_2 6 (fun a b => a * b) rfl hv hg fun A hA => sel_of (.inl rfl) hv hA (fun _ v' hv' => call4_2 6 (fun a b => a * b) rfl hr hh fun B hB => sel_of (.inl rfl) hr hB (fun _ r' hr' => hK r' v' _ _ hr' hv' (s0 hq)) fun k => absurd k (by decide)) fun k => absurd k (by decide)
/-- k rounds, down to the exponent m; gs: the powers of the constant. -/
def roundsP (gs : List (List Int)) (m1 : List Int) (K : List Int → List Int → Prop) (m : Nat) : Nat → List Int → List Int → Prop
  | 0, r, v => K r v
  | k + 1, r, v => roundK ((m + k + 1 : Nat) : Int) (nth c0 gs (95 - (m + k))) (nth c0 gs (94 - (m + k))) m1 r v fun r' v' => roundsP gs m1 K m k r' v'
def Gs (gs : List (List Int)) : Prop := ∀ j, j < 96 → Elt (nth c0 gs j) (sqn gF j)
theorem roundsP_of {gs : List (List Int)} {m1 : List Int} {x : F} {K : List Int → List Int → Prop} {m i : Nat} (hgs : ∀ j, 95 - i ≤ j → j < 96 → Elt (nth c0 gs j) (sqn gF j)) (hm : Elt m1 (0 - 1)) : ∀ (k : Nat) (r v : List Int) (a c : F), m + k ≤ i → i ≤ 95 → Elt r a → Elt v c → RootInv x (m + k) a c → (∀ r' v' a' c', Elt r' a' → Elt v' c' → RootInv x m a' c' → K r' v') → roundsP gs m1 K m k r v
  | 0, r, v, a, c, _, _, hr, hv, hI, hK => hK r v a c hr hv hI
  | k + 1, r, v, a, c, hn, hi, hr, hv, hI, hK => roundK_of (by omega) (hgs _ (by omega) (by omega)) (hgs _ (by omega) (by omega)) hm hr hv hI fun r' v' a' c' hr' hv' hI' => roundsP_of hgs hm k r' v' a' c' (by omega) hi hr' hv' hI' hK
theorem el4_zero {a z : List Int} (ha : a.length = 4) : el4 (a ++ z) 0 = a := by
  simp only [el4, Nat.mul_zero, List.drop_zero]
  exact take_app ha
theorem el4_succ {a z : List Int} (ha : a.length = 4) (k : Nat) : el4 (a ++ z) (k + 1) = el4 z k := by
  simp only [el4]
  rw [show 4 * (k + 1) = 4 + 4 * k by omega, ← List.drop_drop, drop_app ha]
theorem el4_flat {z : List Int} : ∀ (gs : List (List Int)) (j : Nat), (∀ g ∈ gs, g.length = 4) → j < gs.length → el4 (gs.flatten ++ z) j = nth c0 gs j
  | [], j, _, h => absurd h (Nat.not_lt_zero _)
  | g :: gs, 0, h, _ => by
    rw [List.flatten_cons, List.append_assoc, el4_zero (h g (by simp))]
    rfl
  | g :: gs, j + 1, h, hj => by
    rw [List.flatten_cons, List.append_assoc, el4_succ (h g (by simp))]
    exact el4_flat gs j (fun g hg => h g (by simp [hg])) (by simpa using hj)
theorem el4_past {z : List Int} : ∀ (gs : List (List Int)) (k : Nat), (∀ g ∈ gs, g.length = 4) → el4 (gs.flatten ++ z) (gs.length + k) = el4 z k
  | [], k, _ => by simp
  | g :: gs, k, h => by
    rw [List.flatten_cons, List.append_assoc, List.length_cons, show gs.length + 1 + k = (gs.length + k) + 1 by omega, el4_succ (h g (by simp))]
    exact el4_past gs k fun g hg => h g (by simp [hg])
/-- A state at the head, put together. -/
theorem mid_of {i : Nat} {l r v m1 : List Int} {gs : List (List Int)} {a c : F} (hl : l.length = 4) (hx : isSq l) (hg : gs.length = i + 1) (hgs : ∀ j, j < i + 1 → Elt (nth c0 gs j) (sqn gF (95 - i + j))) (hlen : ∀ g ∈ gs, g.length = 4) (hr : Elt r a) (hv : Elt v c) (hm : Elt m1 (0 - 1)) (hI : RootInv (dec64 l) i a c) :
    midInv i (l ++ (r ++ (gs.flatten ++ (v ++ m1)))) := by
  have e0 : el4 (l ++ (r ++ (gs.flatten ++ (v ++ m1)))) 0 = l := el4_zero hl
  have e1 : el4 (l ++ (r ++ (gs.flatten ++ (v ++ m1)))) 1 = r := by rw [el4_succ hl, el4_zero hr.len]
  have e2 : ∀ k, el4 (l ++ (r ++ (gs.flatten ++ (v ++ m1)))) (2 + k) = el4 (gs.flatten ++ (v ++ m1)) k := fun k => by rw [show 2 + k = (k + 1) + 1 by omega, el4_succ hl, el4_succ hr.len]
  have e3 : el4 (gs.flatten ++ (v ++ m1)) (i + 1) = v := by
    have := el4_past (z := v ++ m1) gs 0 hlen
    rw [hg, Nat.add_zero] at this
    rw [this, el4_zero hv.len]
  have e4 : el4 (gs.flatten ++ (v ++ m1)) (i + 1 + 1) = m1 := by
    have := el4_past (z := v ++ m1) gs 1 hlen
    rw [hg] at this
    rw [this, el4_succ hv.len]
    simp only [el4, Nat.mul_zero, List.drop_zero]
    exact List.take_of_length_le (by rw [hm.len]; exact Nat.le_refl _)
  unfold midInv
  rw [e0, e1, e2, e3, show 3 + (i + 1) = 2 + (i + 1 + 1) by omega, e2, e4]
  refine ⟨hx, fun j hj => ?_, ⟨a, hr, c, hv, hI⟩, hm⟩
  rw [e2, el4_flat gs j hlen (by omega)]
  exact hgs j hj
theorem nth_app_left {α : Type} {z : α} : ∀ {l : List α} {m : List α} {j : Nat}, j < l.length → nth z (l ++ m) j = nth z l j
  | _ :: _, _, 0, _ => rfl
  | _ :: l, m, j + 1, h => nth_app_left (l := l) (Nat.lt_of_succ_lt_succ h)
theorem nth_app_self {α : Type} {z a : α} : ∀ {l : List α}, nth z (l ++ [a]) l.length = a
  | [] => rfl
  | _ :: l => nth_app_self (l := l)
/-- The powers of the constant: n more. -/
def ggK (K : List (List Int) → Prop) : Nat → List (List Int) → List Int → Prop
  | 0, acc, e => K (acc ++ [e])
  | n + 1, acc, e => callK 7 4 e fun o => ggK K n (acc ++ [e]) o
theorem ggK_of {K : List (List Int) → Prop} : ∀ (n : Nat) (acc : List (List Int)) (e : List Int), acc.length + n = 95 → (∀ j, j < acc.length → Elt (nth c0 acc j) (sqn gF j)) → Elt e (sqn gF acc.length) → (∀ gs : List (List Int), gs.length = 96 → Gs gs → K gs) → ggK K n acc e
  | 0, acc, e, hl, hacc, he, hK => hK _ (by simp; omega) fun j hj => by
    rcases Nat.lt_or_ge j acc.length with h | h
    · rw [nth_app_left h]; exact hacc j h
    · have : j = acc.length := by omega
      subst this
      rw [nth_app_self]; exact he
  | n + 1, acc, e, hl, hacc, he, hK => call4_1 7 (fun a => a * a) rfl he fun o ho => ggK_of n (acc ++ [e]) o (by simp; omega) (fun j hj => by
      rcases Nat.lt_or_ge j acc.length with h | h
      · rw [nth_app_left h]; exact hacc j h
      · have : j = acc.length := by simp at hj; omega
        subst this
        rw [nth_app_self]; exact he) (by simpa [sqn] using ho) hK
end Go.Sx
