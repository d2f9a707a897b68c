/- Element.Invert: the power of p - 2. -/
import Derived.Test.YtkjfcpeabdimmaaPtGet
set_option linter.unusedVariables false
set_option linter.unusedSimpArgs false
set_option linter.constructorNameAsVariable false
set_option maxRecDepth 100000
set_option maxHeartbeats 4000000
namespace Go.Sx
open Go.Proofs Go.FP Go.EC
def canInvert : Can := { id := 17, kinds := ks .u64 4, args := [pt 0, pt 1], hp := [rw_ [.int .u64 0, .int .u64 0, .int .u64 0, .int .u64 0], ro (vs .u64 0 4)], outs := ks .u64 4, res := pt 0, hpE := [vs .u64 4 4, vs .u64 0 4], new := [] }
def repOp (n : Nat) (o : Fop) : List Fop := List.replicate n o
-- registers: 0 x, 1 z, 2 t0, 3 t1, 4 t2
def invOps : List Fop := [(1, 1, 0, 0), (0, 2, 0, 1), (1, 1, 2, 2), (0, 1, 1, 0), (1, 3, 1, 1)] ++ (repOp 2 (1, 3, 3, 3) ++ ([(0, 3, 3, 1), (1, 4, 3, 3)] ++ (repOp 5 (1, 4, 4, 4) ++ ((0, 3, 3, 4) :: (repOp 2 (1, 3, 3, 3) ++
  ([(0, 2, 2, 3), (1, 3, 2, 2)] ++ (repOp 2 (1, 3, 3, 3) ++ ([(0, 1, 1, 3), (1, 3, 1, 1)] ++ (repOp 13 (1, 3, 3, 3) ++ ([(0, 2, 2, 3), (1, 3, 2, 2)] ++ (repOp 16 (1, 3, 3, 3) ++ ([(0, 1, 1, 3), (1, 3, 1, 1)] ++ (repOp 47 (1, 3, 3, 3) ++
  ([(0, 1, 1, 3), (1, 3, 1, 1)] ++ (repOp 30 (1, 3, 3, 3) ++ ((0, 2, 2, 3) :: (repOp 97 (1, 2, 2, 2) ++ [(0, 1, 1, 2)])))))))))))))))))
/-- The list, its numbers forced. -/
def frcL {α : Type} : List Nat → (List Nat → α) → α
  | [], k => k []
  | x :: l, k => frc x fun x => frcL l fun l => k (x :: l)
theorem frcL_spec {α : Type} : ∀ (l : List Nat) (k : List Nat → α), frcL l k = k l
  | [], _ => rfl
  | x :: l, k => by simp [frcL, frc_spec, frcL_spec l]
/-- The exponents. -/
def fopE : List Fop → List Nat → List Nat
  | [], s => s
  | (c, d, i, j) :: l, s => match c with
    | 0 => frcL (putL s d (nth 0 s i + nth 0 s j)) fun s => fopE l s
    | 1 => frcL (putL s d (nth 0 s i + nth 0 s i)) fun s => fopE l s
    | _ => fopE l s
def mulOnly (l : List Fop) : Bool := l.all fun o => o.1 == 0 || o.1 == 1
/-- Within the list. -/
def Pows (x : F) (f : List F) (s : List Nat) : Prop := All2 (fun v k => v = fpow x k) f s
theorem All2.nthIn {α β : Type} {R : α → β → Prop} {z : α} {z' : β} : ∀ {l : List α} {m : List β}, All2 R l m → ∀ i, i < l.length → R (Go.Sx.nth z l i) (Go.Sx.nth z' m i)
  | [], [], _, i, h => absurd h (Nat.not_lt_zero i)
  | _ :: _, _ :: _, h, 0, _ => h.1
  | _ :: _, _ :: _, h, i + 1, k => h.2.nthIn i (Nat.lt_of_succ_lt_succ k)
theorem putL_length {α : Type} : ∀ (l : List α) (i : Nat) (a : α), (putL l i a).length = l.length
  | [], _, _ => rfl
  | _ :: _, 0, _ => rfl
  | _ :: l, i + 1, a => by simp [putL, putL_length l i a]
def inRange (n : Nat) (l : List Fop) : Bool := l.all fun o => decide (o.2.2.1 < n) && decide (o.2.2.2 < n)
theorem pows_of (x : F) : ∀ (l : List Fop) (f : List F) (s : List Nat), mulOnly l = true → inRange f.length l = true → Pows x f s → Pows x (fopG bF l f) (fopE l s)
  | [], f, s, _, _, h => h
  | (c, d, i, j) :: l, f, s, hm, hr, h => by
    simp only [mulOnly, inRange, List.all_cons, Bool.and_eq_true, Bool.or_eq_true, beq_iff_eq, decide_eq_true_eq] at hm hr
    have hi := h.nthIn (z := 0) (z' := 0) i hr.1.1
    have hj := h.nthIn (z := 0) (z' := 0) j hr.1.2
    have step : ∀ (v : F) (k : Nat), v = fpow x k → Pows x (fopG bF l (putL f d v)) (fopE l (putL s d k)) := fun v k e =>
      pows_of x l _ _ hm.2 (by rw [putL_length]; exact hr.2) (h.put (R := fun v k => v = fpow x k) e d)
    rcases hm.1 with e | e
    · subst e
      simp only [fopE, frcL_spec]
      exact step _ _ (by rw [hi, hj, fpow_add])
    · subst e
      simp only [fopE, frcL_spec]
      exact step _ _ (by rw [hi, fpow_add])
theorem inv_cond : Can.condT canInvert Try.prog X2 tabImpl relsF 105 9 = inp 4 0 18446744073709551615 (fun l => rngs 0 18446744073709551615 l ((relsF 17).pre l → fopVC (fun s => (relsF 17).post l (nth c0 s 1)) invOps [l, l, l, l, l])) := by kernel_rfl
theorem exp_ok : nth 0 (fopE invOps [1, 1, 1, 1, 1]) 1 = p - 2 := by decide +kernel
theorem exp_len : (fopE invOps [1, 1, 1, 1, 1]).length = 5 := by decide +kernel
theorem exp_m : mulOnly invOps = true := by decide +kernel
theorem exp_r : inRange 5 invOps = true := by decide +kernel
theorem pow_at {x : F} {f : List F} {s : List Nat} (h : Pows x f s) {i : Nat} (hi : i < s.length) : nth 0 f i = fpow x (nth 0 s i) :=
  All2.nthIn (R := fun v k => v = fpow x k) (z := 0) (z' := 0) h i (by rw [All2.length h]; exact hi)
theorem pows_run {x : F} {l : List Fop} {f : List F} {s : List Nat} {i k n : Nat} (h : Pows x f s) (hn : f.length = n) (hm : mulOnly l = true) (hr : inRange n l = true) (hi : i < (fopE l s).length) (he : nth 0 (fopE l s) i = k) : nth 0 (fopG bF l f) i = fpow x k := by
  subst hn he
  exact pow_at (pows_of x l f s hm hr h) hi
theorem inv_law (x : F) : nth 0 (fopG bF invOps [x, x, x, x, x]) 1 = iv x := by
  have o1 := (fpow_one x).symm
  exact pows_run (n := 5) (s := [1, 1, 1, 1, 1]) ⟨o1, o1, o1, o1, o1, trivial⟩ rfl exp_m exp_r (by rw [exp_len]; decide) exp_ok
theorem inv_con : ConOk Try.prog relsF 105 canInvert.con := con_of_can (can_of_condT hX2 hm2 (tab := tabImpl) tabImpl_ok 9 (by decide) (by
  rw [inv_cond]
  refine inp_of _ _ _ _ fun l hl => rngs_of _ _ fun _ hp => ?_
  have he : Elt l (dec64 l) := ⟨hl, hp, rfl⟩
  refine fop_of invOps _ [dec64 l, dec64 l, dec64 l, dec64 l, dec64 l] ⟨he, he, he, he, he, trivial⟩ fun s' hs => ?_
  have h1 := hs.nth elt0 1
  exact ⟨h1.ok, h1.dec.trans (inv_law _)⟩))
end Go.Sx
