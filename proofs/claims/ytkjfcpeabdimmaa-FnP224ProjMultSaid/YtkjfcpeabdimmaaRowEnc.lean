/- The longer form of a point's bytes. -/
import Derived.Test.YtkjfcpeabdimmaaRowU
import Derived.Test.YtkjfcpeabdimmaaRow3
set_option linter.unusedVariables false
set_option linter.unusedSimpArgs false
set_option linter.constructorNameAsVariable false
set_option maxRecDepth 100000
set_option maxHeartbeats 4000000
namespace Go.Sx
open Go.Proofs Go.FP Go.EC

def cX (l : List Int) : List Int := (l.drop 1).take 28
def cY (l : List Int) : List Int := l.drop 29
/-- The bytes are the longer form of the point. -/
def EncB (l : List Int) : Pt p → Prop
  | none => l = [0]
  | some (x, y) => l.length = 57 ∧ rng 256 l ∧ l.take 1 = [4] ∧ valB (cX l) < pI ∧ valB (cY l) < pI ∧ tF (valB (cX l)) = x ∧ tF (valB (cY l)) = y ∧ onC x y
theorem EncB.on {l : List Int} : ∀ {P : Pt p}, EncB l P → On bF P
  | none, _ => trivial
  | some (x, y), h => h.2.2.2.2.2.2.2
theorem EncB.rng {l : List Int} : ∀ {P : Pt p}, EncB l P → Go.Sx.rng 256 l
  | none, h => by
    have : l = [0] := h
    subst this
    simp only [Go.Sx.rng]
    decide
  | some (x, y), h => h.2.1
theorem EncB.len {l : List Int} : ∀ {P : Pt p}, EncB l P → (l.length = 1 ∧ P = none) ∨ (l.length = 57 ∧ P ≠ none)
  | none, h => by
    have : l = [0] := h
    subst this
    exact .inl ⟨rfl, rfl⟩
  | some (x, y), h => .inr ⟨h.1, by simp⟩
theorem EncB.uniq {l : List Int} : ∀ {P Q : Pt p}, EncB l P → EncB l Q → P = Q
  | none, none, _, _ => rfl
  | none, some (x, y), h, k => by
    have : l = [0] := h
    subst this
    exact absurd k.1 (by decide)
  | some (x, y), none, k, h => by
    have : l = [0] := h
    subst this
    exact absurd k.1 (by decide)
  | some (x, y), some (a, b), h, k => by
    obtain ⟨_, _, _, _, _, h1, h2, _⟩ := h
    obtain ⟨_, _, _, _, _, k1, k2, _⟩ := k
    rw [← h1, ← h2, ← k1, ← k2]
theorem enc_parts (l : List Int) : l = l.take 1 ++ (cX l ++ cY l) := by
  have : cY l = (l.drop 1).drop 28 := by simp [cY]
  rw [this, cX, List.take_append_drop, List.take_append_drop]
theorem EncB.inj {l m : List Int} : ∀ {P : Pt p}, EncB l P → EncB m P → l = m
  | none, h, k => by
    have h1 : l = [0] := h
    have k1 : m = [0] := k
    rw [h1, k1]
  | some (x, y), h, k => by
    obtain ⟨l1, r1, f1, a1, b1, c1, d1, _⟩ := h
    obtain ⟨l2, r2, f2, a2, b2, c2, d2, _⟩ := k
    rw [enc_parts l, enc_parts m, f1, f2]
    have e1 : cX l = cX m := bytes_eq (rng_take _ (rng_drop _ r1)) (rng_take _ (rng_drop _ r2)) (by simp [cX, l1, l2]) a1 a2 (by rw [c1, c2])
    have e2 : cY l = cY m := bytes_eq (rng_drop _ r1) (rng_drop _ r2) (by simp [cY, l1, l2]) b1 b2 (by rw [d1, d2])
    rw [e1, e2]

/-- A point read of its bytes. -/
def relPt : RelSpec := { pre := fun i => ∃ P, EncB i P, post := fun i o => ok3 o 0 ∧ ∀ P, EncB i P → Rep bF (tri3 o 0) P }
/-- A point told. -/
def relOutFar : RelSpec := { pre := fun i => ok3 i 0 ∧ (∃ P, Rep bF (tri3 i 0) P) ∧ dec64 (el4 i 2) = 0, post := fun i o => ∀ P, Rep bF (tri3 i 0) P → EncB o P }
def relOutFin : RelSpec := { pre := fun i => ok3 i 0 ∧ (∃ P, Rep bF (tri3 i 0) P) ∧ dec64 (el4 i 2) ≠ 0, post := fun i o => ∀ P, Rep bF (tri3 i 0) P → EncB o P }
def relAskZ : RelSpec := { pre := fun _ => True, post := fun i o => isB o (dec64 (el4 i 2) = 0) }
/-- 71: bytes to a point; 72: is it far; 73, 74: a point to bytes. -/
def relsE (n : Nat) : RelSpec := if n = 71 then relPt else if n = 72 then relAskZ else if n = 73 then relOutFar else if n = 74 then relOutFin else relsU n
theorem relsE_U {n : Nat} (h : n < 71 ∨ 74 < n) : relsE n = relsU n := by
  unfold relsE
  rw [if_neg (by omega), if_neg (by omega), if_neg (by omega), if_neg (by omega)]
theorem tabE_ok : ∀ f con, (f, con) ∈ tabU → ConOk Try.prog relsE f con := by
  intro f con hm
  have h0 : (tabU.all fun x => decide (x.2.id < 71 ∨ 74 < x.2.id)) = true := by decide
  exact (tabU_ok f con hm).lift (relsE_U (by simpa using List.all_eq_true.1 h0 _ hm))
def newPt (r : Nat) : List Sc := [.ptr (r + 1) 0, .ptr (r + 2) 0, .ptr (r + 3) 0]
def canPt (m : Nat) : Can := { id := 71, kinds := ks .u8 m, args := [.one (.s (.sliceU 0 0 m))], hp := [ro (vs .u8 0 m)], outs := ks .u64 12, res := .tup [.s (.ptr 1 0), .s (.bool true)], hpE := [vs .u8 0 m], new := [newPt 1, vs .u64 m 4, vs .u64 (m + 4) 4, vs .u64 (m + 8) 4] }
def canOutFar : Can := { id := 73, kinds := ks .u64 12, args := [pt 0], hp := [sp 1, ro (vs .u64 0 4), ro (vs .u64 4 4), ro (vs .u64 8 4)], outs := ks .u8 1, res := .one (.s (.slice 4 0 1 57)), hpE := [(sp 1).cs, vs .u64 0 4, vs .u64 4 4, vs .u64 8 4], new := [vs .u8 12 1] }
def canOutFin : Can := { id := 74, kinds := ks .u64 12, args := [pt 0], hp := [sp 1, ro (vs .u64 0 4), ro (vs .u64 4 4), ro (vs .u64 8 4)], outs := ks .u8 57, res := .one (.s (.slice 4 0 57 57)), hpE := [(sp 1).cs, vs .u64 0 4, vs .u64 4 4, vs .u64 8 4], new := [vs .u8 12 57] }
end Go.Sx
