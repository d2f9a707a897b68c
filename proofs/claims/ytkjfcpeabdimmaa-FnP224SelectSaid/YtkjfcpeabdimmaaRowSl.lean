/- Rows over slices of bytes: by length, or of whatever length. -/
import Derived.Test.YtkjfcpeabdimmaaPtRead
set_option linter.unusedVariables false
set_option linter.unusedSimpArgs false
set_option linter.constructorNameAsVariable false
namespace Go.Sx
open Go.Proofs Go.FP Go.EC
/-- Slices of a known length, or of any; numbered from b on, their regions from r on. -/
def slArgs : Nat → Nat → List (Option Nat) → List AV
  | _, _, [] => []
  | b, r, some m :: l => .one (.s (.sliceU r 0 m)) :: slArgs (b + m) (r + 1) l
  | b, r, none :: l => .one (.s (.sliceV b)) :: slArgs (b + 1) r l
def slHp : Nat → List (Option Nat) → List (List Sc)
  | _, [] => []
  | b, some m :: l => vs .u8 b m :: slHp (b + m) l
  | b, none :: l => slHp (b + 1) l
def slKinds : List (Option Nat) → List IntKind
  | [] => []
  | some m :: l => ks .u8 m ++ slKinds l
  | none :: l => .i64 :: slKinds l
def canSl (id : Nat) (cls : List (Option Nat)) : Can :=
  { id := id, kinds := slKinds cls, args := slArgs 0 0 cls, hp := (slHp 0 cls).map ro, outs := [.u8], res := .one (.s (.boolv (slKinds cls).length)), hpE := slHp 0 cls, new := [] }
/-- The number is no length of a point's longer form. -/
def other (n : Int) : Prop := n ≠ 1 ∧ n ≠ 57
/-- 91: the last number is another length; 92: the first one. -/
def relLast : RelSpec := { pre := fun i => other (i.getLastD 0), post := postRow }
def relFirst : RelSpec := { pre := fun i => other (nth 0 i 0), post := postRow }
def relsR2 (n : Nat) : RelSpec := if n = 91 then relLast else if n = 92 then relFirst else relsD n
theorem relsR2_D {n : Nat} (h : n ≠ 91) (h' : n ≠ 92) : relsR2 n = relsD n := by simp [relsR2, h, h']
theorem tabR2_ok : ∀ f con, (f, con) ∈ tabD → ConOk Try.prog relsR2 f con := by
  intro f con hm
  have h0 : (tabD.all fun x => x.2.id != 91 && x.2.id != 92) = true := by decide
  have := List.all_eq_true.1 h0 _ hm
  simp only [Bool.and_eq_true, bne_iff_ne, ne_eq] at this
  exact (tabD_ok f con hm).lift (relsR2_D this.1 this.2)
/-- Is the length beyond what the statements speak of? -/
def gtK (x : Int) (A B : Prop) : Prop := ∀ r : Int, r = (if cmpFn .gtr x 2147483647 = true then 1 else 0) → (r ≠ 0 → A) ∧ (r = 0 → B)
theorem gtK_of {x : Int} {A B : Prop} (hA : A) (hB : B) : gtK x A B := fun r _ => ⟨fun _ => hA, fun _ => hB⟩
/-- Another length is no point. -/
def othK (x : Int) (A : Prop) : Prop := byteK x 1 False (neqK x 57 A False)
theorem othK_of {x : Int} {A : Prop} (h : other x) (hA : A) : othK x A := byteK_of (fun e => h.1 e) fun _ => neqK_of (fun _ => hA) fun e => h.2 e
/-- The laws' sum, by its outcome; which of its numbers: the question's, far, not far. -/
def sumK (ask far fin : Nat) (i : List Int) (A B : List Int → Prop) : Prop := callD ask 1 i (one1 fun v => (v ≠ 0 → callD far 1 i A) ∧ (v = 0 → callD fin 57 i B))
theorem sumK_of {ask far fin m : Nat} (ea : relsD ask = relAskSum m) (e0 : relsD far = relSumFar m) (e1 : relsD fin = relSumFin m) {i : List Int} {A B : List Int → Prop} {P Q : Pt p} (h : bothEnc m i P Q)
    (hA : ∀ o : List Int, o.length = 1 → EncB o (asum iv P Q) → A o) (hB : ∀ o : List Int, o.length = 57 → EncB o (asum iv P Q) → B o) : sumK ask far fin i A B := by
  refine callD_of (by rw [ea]; trivial) fun v lv hv => ?_
  rw [ea] at hv
  have hv' : isB v (∃ P Q, bothEnc m i P Q ∧ asum iv P Q = none) := hv
  match v, lv with
  | [r], _ =>
    by_cases hs : asum iv P Q = none
    · have e1' : r = 1 := hv'.1 ⟨P, Q, h, hs⟩
      subst e1'
      refine ⟨fun _ => callD_of (by rw [e0]; exact ⟨P, Q, h, hs⟩) fun o lo ho => ?_, fun k => absurd k (by decide)⟩
      rw [e0] at ho
      exact hA o lo (ho P Q h)
    · have e0' : r = 0 := hv'.2 fun ⟨P', Q', h', hs'⟩ => by
        obtain ⟨rfl, rfl⟩ := h.uniq h'
        exact hs hs'
      subst e0'
      refine ⟨fun k => absurd rfl k, fun _ => callD_of (by rw [e1]; exact ⟨P, Q, h, hs⟩) fun o lo ho => ?_⟩
      rw [e1] at ho
      exact hB o lo (ho P Q h)
theorem fitsC_intro : ∀ (ks : List IntKind) (xs : List Int) {p : Prop}, p → fitsC ks xs p
  | [], _, _, h => h
  | _ :: _, [], _, h => h
  | _ :: ks, _ :: xs, _, h => fun _ _ => fitsC_intro ks xs h
/-- The condition of a row over slices. -/
def slCond (id : Nat) (cls : List (Option Nat)) (V : (List Int → Prop) → List Int → Prop) : Prop :=
  alln (slKinds cls).length fun l => fitsC (slKinds cls) l ((relsR2 id).pre l → V (fun o => (relsR2 id).post l o) l)
theorem slCond_of {id : Nat} {cls : List (Option Nat)} {V : (List Int → Prop) → List Int → Prop} (h : ∀ l : List Int, l.length = (slKinds cls).length → (relsR2 id).pre l → V (fun o => (relsR2 id).post l o) l) : slCond id cls V :=
  alln_len _ fun l hl => fitsC_intro _ _ fun hp => h l hl hp
theorem ok90 {l : List Int} : (fun o => (relsR2 90).post l o) [1] := (by decide : (1 : Int) ≠ 0)
theorem ok91 {l : List Int} : (fun o => (relsR2 91).post l o) [1] := (by decide : (1 : Int) ≠ 0)
theorem ok92 {l : List Int} : (fun o => (relsR2 92).post l o) [1] := (by decide : (1 : Int) ≠ 0)
theorem last_at {l : List Int} {n : Nat} (h : l.length = n + 1) : l.getLastD 0 = nth 0 l n := by
  induction n generalizing l with
  | zero =>
    match l, h with
    | [a], _ => rfl
  | succ n ih =>
    match l, h with
    | a :: b :: l, h =>
      have := ih (l := b :: l) (by simpa using h)
      simpa [List.getLastD, nth] using this
end Go.Sx
