/- Comparisons: lessOrEqBytes, constantTimeCompare, Below, Same. -/
import Derived.Test.YtkjfcpeabdimmaaBaseLimb
set_option linter.unusedVariables false
set_option linter.unusedSimpArgs false
set_option linter.constructorNameAsVariable false
set_option maxRecDepth 100000
set_option maxHeartbeats 4000000
namespace Go.Sx
open Go.Proofs Go.FP Go.EC

def byl (r : Nat) : AV := .one (.s (.sliceU r 0 28))
def canLeq : Can := { id := 5, kinds := ks .u8 56, args := [byl 0, byl 1], hp := [ro (vs .u8 0 28), ro (vs .u8 28 28)], outs := [.i64], res := .one (.s (.var .i64 56)), hpE := [vs .u8 0 28, vs .u8 28 28], new := [] }
def canCt : Can := { id := 18, kinds := ks .u8 56, args := [byl 0, byl 1], hp := [ro (vs .u8 0 28), ro (vs .u8 28 28)], outs := [.i64], res := .one (.s (.var .i64 56)), hpE := [vs .u8 0 28, vs .u8 28 28], new := [] }

/-- All the inputs with their ranges. -/
def inp : Nat → Int → Int → (List Int → Prop) → Prop
  | 0, _, _, K => K []
  | n + 1, a, b, K => ∀ x : Int, inp n a b fun l => K (x :: l)
def rngs (a b : Int) : List Int → Prop → Prop
  | [], p => p
  | x :: l, p => a ≤ x → x ≤ b → rngs a b l p
theorem inp_of (a b : Int) : ∀ (n : Nat) (K : List Int → Prop), (∀ l : List Int, l.length = n → K l) → inp n a b K
  | 0, K, h => h [] rfl
  | n + 1, K, h => fun x => inp_of a b n _ fun l hl => h (x :: l) (by simp [hl])
theorem rngs_of {a b : Int} : ∀ (l : List Int) (p : Prop), ((∀ x ∈ l, a ≤ x ∧ x ≤ b) → p) → rngs a b l p
  | [], p, h => h (by simp)
  | x :: l, p, h => fun h1 h2 => rngs_of l p fun k => h fun y hy => by
    rcases List.mem_cons.1 hy with e | e
    · exact e ▸ ⟨h1, h2⟩
    · exact k y e
theorem rng_of_mem {b : Int} : ∀ (l : List Int), (∀ x ∈ l, 0 ≤ x ∧ x ≤ b - 1) → rng b l
  | [], _ => trivial
  | x :: l, h => ⟨(h x (by simp)).1, by have := (h x (by simp)).2; omega, rng_of_mem l fun y hy => h y (by simp [hy])⟩

theorem leq_cond : Can.cond canLeq Try.prog X2 [] relsF 94 60 = inp 56 0 255 (fun l => rngs 0 255 l ((relsF 5).pre l → lexVC (fun r => (relsF 5).post l [r]) (l.take 28) (l.drop 28))) := by kernel_rfl
theorem rng_take {b : Int} {l : List Int} (n : Nat) (h : rng b l) : rng b (l.take n) := by
  induction l generalizing n with
  | nil => simp [rng]
  | cons x l ih =>
    cases n with
    | zero => trivial
    | succ n => exact ⟨h.1, h.2.1, ih n h.2.2⟩
theorem rng_drop {b : Int} {l : List Int} (n : Nat) (h : rng b l) : rng b (l.drop n) := by
  induction l generalizing n with
  | nil => simp [rng]
  | cons x l ih =>
    cases n with
    | zero => exact h
    | succ n => exact ih n h.2.2
theorem leq_con : ConOk Try.prog relsF 94 canLeq.con := can_of_cond hX2 hm2 (tab := []) tab_nil 60 (by decide) (by
  rw [leq_cond]
  refine inp_of _ _ _ _ fun l hl => rngs_of _ _ fun h _ => ?_
  have hr := rng_of_mem (b := 256) l h
  refine lexVC_of (b := 256) (by decide) _ _ 0 (rng_take 28 hr) (rng_drop 28 hr) (by simp; omega) (fun k => ?_) (fun k => ?_)
  · exact ⟨fun _ => rfl, fun q => (q (by rw [valB_hv, valB_hv]; exact k)).elim⟩
  · exact ⟨fun q => (k (by rw [← valB_hv, ← valB_hv]; exact q)).elim, fun _ => rfl⟩)

theorem ct_cond : Can.cond canCt Try.prog X2 [] relsF 112 60 = inp 56 0 255 (fun l => rngs 0 255 l ((relsF 18).pre l → ctVC (fun r => (relsF 18).post l [r]) 0 (l.take 28) (l.drop 28))) := by kernel_rfl
theorem ct_con : ConOk Try.prog relsF 112 canCt.con := can_of_cond hX2 hm2 (tab := []) tab_nil 60 (by decide) (by
  rw [ct_cond]
  refine inp_of _ _ _ _ fun l hl => rngs_of _ _ fun h _ => ?_
  have hr := rng_of_mem (b := 256) l h
  refine ctVC_of _ _ 0 (by decide) (by decide) (rng_take 28 hr) (rng_drop 28 hr) (by simp; omega) (fun k => ?_) (fun k => ?_)
  · exact ⟨fun _ => rfl, fun q => (q k.2).elim⟩
  · exact ⟨fun q => (k ⟨rfl, q⟩).elim, fun _ => rfl⟩)

theorem below_cond : Can.cond canBelow Try.prog X2 [] relsF 21 60 = inp 14 0 0 (fun l => rngs (-9223372036854775808) 9223372036854775807 l ((relsF 21).pre l → belVC (fun r => (relsF 21).post l [r]) (l.take 7).reverse (l.drop 7).reverse)) := by kernel_rfl
theorem same_cond : Can.cond canSame Try.prog X2 [] relsF 19 60 = inp 14 0 0 (fun l => rngs (-9223372036854775808) 9223372036854775807 l ((relsF 22).pre l → sameVC (fun r => (relsF 22).post l [r]) (l.take 7) (l.drop 7))) := by kernel_rfl
theorem rng_rev {b : Int} {l : List Int} (h : rng b l) : rng b l.reverse := by
  have app : ∀ (l m : List Int), rng b l → rng b m → rng b (l ++ m) := by
    intro l
    induction l with
    | nil => intro m _ h; exact h
    | cons x l ih => intro m h k; exact ⟨h.1, h.2.1, ih m h.2.2 k⟩
  induction l with
  | nil => trivial
  | cons x l ih =>
    rw [List.reverse_cons]
    exact app _ _ (ih h.2.2) ⟨h.1, h.2.1, trivial⟩
theorem val32_hv (l : List Int) : val32 l = hv 4294967296 0 l.reverse := hv_rev _ l
theorem below_con : ConOk Try.prog relsF 21 canBelow.con := can_of_cond hX2 hm2 (tab := []) tab_nil 60 (by decide) (by
  rw [below_cond]
  refine inp_of _ _ _ _ fun l hl => rngs_of _ _ fun h hp => ?_
  refine belVC_of (b := 4294967296) (by decide) _ _ 0 (rng_rev (rng_take 7 hp)) (rng_rev (rng_drop 7 hp)) (by simp; omega) (fun k => ?_) (fun k => ?_)
  · exact ⟨fun _ => rfl, fun q => (q (by rw [val32_hv, val32_hv]; exact k)).elim⟩
  · exact ⟨fun q => (k (by rw [← val32_hv, ← val32_hv]; exact q)).elim, fun _ => rfl⟩)
theorem same_con : ConOk Try.prog relsF 19 canSame.con := can_of_cond hX2 hm2 (tab := []) tab_nil 60 (by decide) (by
  rw [same_cond]
  refine inp_of _ _ _ _ fun l hl => rngs_of _ _ fun h hp => ?_
  refine sameVC_of _ _ (by simp; omega) (fun k => ?_) (fun k => ?_)
  · exact ⟨fun _ => rfl, fun q => (q k).elim⟩
  · exact ⟨fun q => (k q).elim, fun _ => rfl⟩)
end Go.Sx
