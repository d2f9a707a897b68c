/- The laws' p224alike: two points of bytes, by length. -/
import Derived.Test.YtkjfcpeabdimmaaBaseSl
set_option linter.unusedVariables false
set_option linter.unusedSimpArgs false
set_option linter.constructorNameAsVariable false
set_option maxRecDepth 100000
set_option maxHeartbeats 4000000
namespace Go.Sx
open Go.Proofs Go.FP Go.EC
def endL (P : List Int → Prop) (n : Nat) (u : List Int) (q : Nat) (w : List Int) : Prop := match n, q with
  | 1, 1 => alikeK u w fun r => ifK r (rdK 1 u (P [0]) (P [1])) (P [0])
  | 57, 57 => alikeK u w fun r => ifK r (rdK 57 u (P [0]) (P [1])) (P [0])
  | _, _ => callR3 100 1 [] fun _ => P [0]
def relAl (n : Nat) : RelSpec := { pre := fun _ => True, post := fun i o => isB o (i.take n = i.drop n ∧ isEnc (i.take n)) }
/-- 98, 99: the number behind the first slice is another length; 101, 102: the same points. -/
def relAt (m : Nat) : RelSpec := { pre := fun i => other (nth 0 i m), post := postRow }
def relsR4 (n : Nat) : RelSpec := if n = 98 then relAt 1 else if n = 99 then relAt 57 else if n = 101 then relAl 1 else if n = 102 then relAl 57 else relsR3 n
theorem tabR34_ok : ∀ f con, (f, con) ∈ tabR3 → ConOk Try.prog relsR4 f con := by
  intro f con hm
  have h0 : (tabR3.all fun x => x.2.id != 98 && x.2.id != 99 && x.2.id != 101 && x.2.id != 102) = true := by decide
  have := List.all_eq_true.1 h0 _ hm
  simp only [Bool.and_eq_true, bne_iff_ne, ne_eq] at this
  exact (tabR3_ok f con hm).lift (by simp [relsR4, this.1.1.1, this.1.1.2, this.1.2, this.2])
def canAl (id n q : Nat) : Can := { id := id, kinds := ks .u8 (n + q), args := [.one (.s (.sliceU 0 0 n)), .one (.s (.sliceU 1 0 q))], hp := [ro (vs .u8 0 n), ro (vs .u8 n q)], outs := [.u8], res := .one (.s (.boolv (n + q))), hpE := [vs .u8 0 n, vs .u8 n q], new := [] }
theorem endL_al {n q : Nat} {l : List Int} (hn : n = 1 ∨ n = 57) (hq : q = 1 ∨ q = 57) (hl : l.length = n + q) : endL (fun o => (relAl n).post l o) n (l.take n) q (l.drop n) := by
  have lu : (l.take n).length = n := by simp [hl]
  have lw : (l.drop n).length = q := by simp [hl]
  have no : l.take n ≠ l.drop n → (fun o => (relAl n).post l o) [0] := fun h => ⟨fun k => (h k.1).elim, fun _ => rfl⟩
  have eq1 : ∀ r : Int, r = 1 ∨ r = 0 → True := fun _ _ => trivial
  have same : ∀ m, m = n → m = q → (m = 1 ∨ m = 57) → alikeK (l.take n) (l.drop n) fun r => ifK r (rdK m (l.take n) ((fun o => (relAl n).post l o) [0]) ((fun o => (relAl n).post l o) [1])) ((fun o => (relAl n).post l o) [0]) := fun m e1 e2 hm => by
    refine alikeK_of (by omega) (fun h => ifK_1 (rdK_of hm (by omega) (fun k => ⟨fun _ => rfl, fun j => (j ⟨h, k⟩).elim⟩) fun k => ⟨fun j => (k j.2).elim, fun _ => rfl⟩)) fun h => ifK_0 (no h)
  have diff : n ≠ q → callR3 100 1 [] fun _ => (fun o => (relAl n).post l o) [0] := fun h => callR3_of trivial fun _ _ _ => no fun e => h (by have := congrArg List.length e; omega)
  rcases hn with rfl | rfl <;> rcases hq with rfl | rfl
  · exact same 1 rfl rfl (.inl rfl)
  · exact diff (by decide)
  · exact diff (by decide)
  · exact same 57 rfl rfl (.inr rfl)
theorem al_1_1 : Can.condT (canAl 101 1 1) Try.prog X2 tabR3 relsR4 40 20 = inp 2 0 255 (fun l => rngs 0 255 l ((relsR4 101).pre l → endL (fun o => (relAl 1).post l o) 1 (l.take 1) 1 (l.drop 1))) := by kernel_rfl
theorem al_1_1_con : ConOk Try.prog relsR4 40 (canAl 101 1 1).con := con_of_can (can_of_condT hX2 hm2 (tab := tabR3) tabR34_ok 20 (by decide) (by rw [al_1_1]; exact inp_of _ _ _ _ fun l hl => rngs_of _ _ fun _ _ => endL_al (.inl rfl) (.inl rfl) hl))
theorem al_1_57 : Can.condT (canAl 101 1 57) Try.prog X2 tabR3 relsR4 40 20 = inp 58 0 255 (fun l => rngs 0 255 l ((relsR4 101).pre l → endL (fun o => (relAl 1).post l o) 1 (l.take 1) 57 (l.drop 1))) := by kernel_rfl
theorem al_1_57_con : ConOk Try.prog relsR4 40 (canAl 101 1 57).con := con_of_can (can_of_condT hX2 hm2 (tab := tabR3) tabR34_ok 20 (by decide) (by rw [al_1_57]; exact inp_of _ _ _ _ fun l hl => rngs_of _ _ fun _ _ => endL_al (.inl rfl) (.inr rfl) hl))
theorem al_57_1 : Can.condT (canAl 102 57 1) Try.prog X2 tabR3 relsR4 40 20 = inp 58 0 255 (fun l => rngs 0 255 l ((relsR4 102).pre l → endL (fun o => (relAl 57).post l o) 57 (l.take 57) 1 (l.drop 57))) := by kernel_rfl
theorem al_57_1_con : ConOk Try.prog relsR4 40 (canAl 102 57 1).con := con_of_can (can_of_condT hX2 hm2 (tab := tabR3) tabR34_ok 20 (by decide) (by rw [al_57_1]; exact inp_of _ _ _ _ fun l hl => rngs_of _ _ fun _ _ => endL_al (.inr rfl) (.inl rfl) hl))
theorem al_57_57 : Can.condT (canAl 102 57 57) Try.prog X2 tabR3 relsR4 40 20 = inp 114 0 255 (fun l => rngs 0 255 l ((relsR4 102).pre l → endL (fun o => (relAl 57).post l o) 57 (l.take 57) 57 (l.drop 57))) := by kernel_rfl
theorem al_57_57_con : ConOk Try.prog relsR4 40 (canAl 102 57 57).con := con_of_can (can_of_condT hX2 hm2 (tab := tabR3) tabR34_ok 20 (by decide) (by rw [al_57_57]; exact inp_of _ _ _ _ fun l hl => rngs_of _ _ fun _ _ => endL_al (.inr rfl) (.inr rfl) hl))
def tabAl : List (FuncId × Con) := [(40, (canAl 102 57 57).con), (40, (canAl 102 57 1).con), (40, (canAl 101 1 57).con), (40, (canAl 101 1 1).con)]
/-- The sums again, the longest first. -/
def tabSums2 : List (FuncId × Con) := [(41, (canSum 82 57 57 1).askc 85), (41, (canSum 82 57 57 1).con), (41, (canSum 83 57 57 57).con), (41, (canSum 82 57 1 1).askc 85), (41, (canSum 82 57 1 1).con), (41, (canSum 83 57 1 57).con),
  (41, (canSum 80 1 57 1).askc 84), (41, (canSum 80 1 57 1).con), (41, (canSum 81 1 57 57).con), (41, (canSum 80 1 1 1).askc 84), (41, (canSum 80 1 1 1).con), (41, (canSum 81 1 1 57).con)]
def tabR4 : List (FuncId × Con) := tabAl ++ (tabSums2 ++ tabR3)
theorem tabSums2_ok : ∀ f con, (f, con) ∈ tabSums2 → ConOk Try.prog relsR4 f con :=
  tabCons (ask_ok ask57) (tabCons (s5757_far_con.lift rfl) (tabCons (s5757_fin_con.lift rfl) (tabCons (ask_ok ask57) (tabCons (s571_far_con.lift rfl) (tabCons (s571_fin_con.lift rfl)
    (tabCons (ask_ok ask1) (tabCons (s157_far_con.lift rfl) (tabCons (s157_fin_con.lift rfl) (tabCons (ask_ok ask1) (tabCons (s11_far_con.lift rfl) (tabCons (s11_fin_con.lift rfl) (fun f con h => by cases h))))))))))))
theorem tabR4_ok : ∀ f con, (f, con) ∈ tabR4 → ConOk Try.prog relsR4 f con :=
  tabApp (tabCons al_57_57_con (tabCons al_57_1_con (tabCons al_1_57_con (tabCons al_1_1_con (fun f con h => by cases h))))) (tabApp tabSums2_ok tabR34_ok)
def callR4 (id n : Nat) (i : List Int) (K : List Int → Prop) : Prop := (relsR4 id).pre i ∧ alln n fun o => (relsR4 id).post i o → K o
theorem callR4_of {id n : Nat} {i : List Int} {K : List Int → Prop} (hp : (relsR4 id).pre i) (h : ∀ o : List Int, o.length = n → (relsR4 id).post i o → K o) : callR4 id n i K := ⟨hp, alln_len n h⟩
/-- Are they the same points? -/
def alL (P : List Int → Prop) (n : Nat) (u w : List Int) : Prop := match n with
  | 1 => callR4 101 1 (u ++ w) (one1 fun r => P [r])
  | _ => callR4 102 1 (u ++ w) (one1 fun r => P [r])
theorem alL_of {P : List Int → Prop} {n : Nat} {u w : List Int} {S : Pt p} (hn : n = 1 ∨ n = 57) (lu : u.length = n) (hu : EncB u S) (hw : EncB w S) (t1 : P [1]) : alL P n u w := by
  have e := hu.inj hw
  subst e
  have key : ∀ o : List Int, o.length = 1 → (relAl n).post (u ++ u) o → one1 (fun r => P [r]) o := fun o lo ho => by
    have ho' : isB o ((u ++ u).take n = (u ++ u).drop n ∧ isEnc ((u ++ u).take n)) := ho
    rw [take_app lu, drop_app lu] at ho'
    match o, lo with
    | [r], _ =>
      have e1 : r = 1 := ho'.1 ⟨rfl, S, hu⟩
      subst e1
      exact t1
  rcases hn with rfl | rfl
  · exact callR4_of trivial key
  · exact callR4_of trivial key
end Go.Sx

/- Points told by the reference in both forms, and by the package in the shorter one. -/
set_option maxRecDepth 100000
set_option maxHeartbeats 4000000
namespace Go.Sx
open Go.Proofs Go.FP Go.EC
/-- The bytes are the shorter form of the point. -/
def ShB (l : List Int) : Pt p → Prop
  | none => l = [0]
  | some (x, y) => l.length = 29 ∧ rng 256 l ∧ nth 0 l 0 = 2 + (y.val : Int) % 2 ∧ valB (l.drop 1) < pI ∧ tF (valB (l.drop 1)) = x ∧ onC x y
theorem ShB.inj {l m : List Int} : ∀ {P : Pt p}, ShB l P → ShB m P → l = m
  | none, h, k => by
    have h1 : l = [0] := h
    have k1 : m = [0] := k
    rw [h1, k1]
  | some (x, y), h, k => by
    obtain ⟨l1, r1, f1, a1, c1, _⟩ := h
    obtain ⟨l2, r2, f2, a2, c2, _⟩ := k
    match l, m, l1, l2 with
    | a :: l, c :: m, l1, l2 =>
      have e1 : a = c := by
        have e : nth 0 (a :: l) 0 = nth 0 (c :: m) 0 := by rw [f1, f2]
        exact e
      have e2 : l = m := bytes_eq (b := l) (c := m) r1.2.2 r2.2.2 (by simp at l1 l2; omega) a1 a2 (by rw [show tF (valB l) = x from c1, show tF (valB m) = x from c2])
      rw [e1, e2]
def relWritten : RelSpec := { pre := r32, post := fun i o => rng 256 o ∧ o.take 1 = [4] ∧ valB (cX o) = val32 (i.take 7) ∧ valB (cY o) = val32 (i.drop 7) }
def relShortS : RelSpec := { pre := r32, post := fun i o => rng 256 o ∧ nth 0 o 0 = 2 + nth 0 i 7 % 2 ∧ valB (o.drop 1) = val32 (i.take 7) }
def relShFar : RelSpec := { pre := fun i => ok3 i 0 ∧ (∃ P, Rep bF (tri3 i 0) P) ∧ dec64 (el4 i 2) = 0, post := fun i o => ∀ P, Rep bF (tri3 i 0) P → ShB o P }
def relShFin : RelSpec := { pre := fun i => ok3 i 0 ∧ (∃ P, Rep bF (tri3 i 0) P) ∧ dec64 (el4 i 2) ≠ 0, post := fun i o => ∀ P, Rep bF (tri3 i 0) P → ShB o P }
/-- 124, 127: a point told in the shorter form (not far; far); 125, 126: the reference's longer and shorter form; 120, 121: rows over bytes that are a point; that are none. -/
def relsWr (n : Nat) : RelSpec := if n = 120 then { pre := isEnc, post := postRow } else if n = 121 then { pre := fun i => ¬ isEnc i, post := postRow } else if n = 124 then relShFin else if n = 125 then relWritten else if n = 126 then relShortS else if n = 127 then relShFar else relsR4 n
theorem tabWr0_ok : ∀ f con, (f, con) ∈ tabR4 → ConOk Try.prog relsWr f con := by
  intro f con hm
  have h0 : (tabR4.all fun x => decide (x.2.id < 120)) = true := by decide
  have := List.all_eq_true.1 h0 _ hm
  simp only [decide_eq_true_eq] at this
  refine (tabR4_ok f con hm).lift ?_
  unfold relsWr
  rw [if_neg (by omega), if_neg (by omega), if_neg (by omega), if_neg (by omega), if_neg (by omega), if_neg (by omega)]
def canWritten : Can := { id := 125, kinds := ks .i64 14, args := [crv, .one (.g [.bool false, .slice 1 0 7 7, .slice 2 0 7 7])], hp := [ro fold4, ro (vs .i64 0 7), ro (vs .i64 7 7)], outs := ks .u8 57, res := .one (.s (.sliceU 3 0 57)), hpE := [fold4, vs .i64 0 7, vs .i64 7 7], new := [vs .u8 14 57] }
def canShortS : Can := { id := 126, kinds := ks .i64 14, args := [crv, .one (.g [.bool false, .slice 1 0 7 7, .slice 2 0 7 7])], hp := [ro fold4, ro (vs .i64 0 7), ro (vs .i64 7 7)], outs := ks .u8 29, res := .one (.s (.sliceU 3 0 29)), hpE := [fold4, vs .i64 0 7, vs .i64 7 7], new := [vs .u8 14 29] }
def canShFar : Can := { id := 127, kinds := ks .u64 12, args := [pt 0], hp := [sp 1, ro (vs .u64 0 4), ro (vs .u64 4 4), ro (vs .u64 8 4)], outs := ks .u8 1, res := .one (.s (.slice 4 0 1 29)), hpE := [(sp 1).cs, vs .u64 0 4, vs .u64 4 4, vs .u64 8 4], new := [vs .u8 12 1] }
def canShFin : Can := { id := 124, kinds := ks .u64 12, args := [pt 0], hp := [sp 1, ro (vs .u64 0 4), ro (vs .u64 4 4), ro (vs .u64 8 4)], outs := ks .u8 29, res := .one (.s (.slice 4 0 29 29)), hpE := [(sp 1).cs, vs .u64 0 4, vs .u64 4 4, vs .u64 8 4], new := [vs .u8 12 29] }
def callW (id n : Nat) (i : List Int) (K : List Int → Prop) : Prop := (relsWr id).pre i ∧ alln n fun o => (relsWr id).post i o → K o
theorem callW_of {id n : Nat} {i : List Int} {K : List Int → Prop} (hp : (relsWr id).pre i) (h : ∀ o : List Int, o.length = n → (relsWr id).post i o → K o) : callW id n i K := ⟨hp, alln_len n h⟩
def binR (op : BinOp) (k : IntKind) (x y : Int) (K : Int → Prop) : Prop := ∀ r : Int, r = binFn op k x y → K r
theorem binR_of {op : BinOp} {k : IntKind} {x y : Int} {K : Int → Prop} (h : K (binFn op k x y)) : binR op k x y K := fun r e => e ▸ h
def convR (k : IntKind) (x : Int) (K : Int → Prop) : Prop := ∀ r : Int, r = k.wrap x → K r
theorem convR_of {k : IntKind} {x : Int} {K : Int → Prop} (h : K (k.wrap x)) : convR k x K := fun r e => e ▸ h
def writtenV1 (Q : List Int → Prop) (l : List Int) : Prop := callK 28 28 (l.take 7) fun X => (callK 28 28 (l.drop 7) fun Y => Q (4 :: (X ++ Y))) ∧ (callK 28 28 (l.drop 7) fun Y => Q (4 :: (X ++ Y)))
def writtenVC (Q : List Int → Prop) (l : List Int) : Prop := writtenV1 Q l ∧ writtenV1 Q l
def shortSVC (Q : List Int → Prop) (l : List Int) : Prop := binR .and .i64 (nth 0 l 7) 1 fun a => binR .add .i64 2 a fun b => convR .u8 b fun c => (callK 28 28 (l.take 7) fun X => Q (c :: X) ∧ Q (c :: X)) ∧ (callK 28 28 (l.take 7) fun X => Q (c :: X) ∧ Q (c :: X))
def shFinVC (Q : List Int → Prop) (l : List Int) : Prop :=
  callU 14 1 (el4 l 2) (one1 fun r => byteK r 1 False (callU 17 4 (el4 l 2) fun i => callU 6 4 (el4 l 0 ++ i) fun x => callU 6 4 (el4 l 1 ++ i) fun y => callU 68 28 y fun Y => binR .and .u8 (nth 0 Y 27) 1 fun a => binR .or .u8 2 a fun b => callU 68 28 x fun X => Q (b :: X)))
def shFarVC (A : Prop) (l : List Int) : Prop :=
  callU 14 1 (el4 l 2) (one1 fun r => byteK r 1 A (callU 17 4 (el4 l 2) fun i => callU 6 4 (el4 l 0 ++ i) fun x => callU 6 4 (el4 l 1 ++ i) fun y => callU 68 28 y fun Y => binR .and .u8 (nth 0 Y 27) 1 fun a => binR .or .u8 2 a fun b => callU 68 28 x fun X => False))
theorem written_cond : Can.condT canWritten Try.prog X2 tabR4 relsWr 38 20 = inp 14 0 0 (fun l => rngs (-9223372036854775808) 9223372036854775807 l ((relsWr 125).pre l → writtenVC (fun o => (relsWr 125).post l o) l)) := by kernel_rfl
theorem shortS_cond : Can.condT canShortS Try.prog X2 tabR4 relsWr 39 20 = inp 14 0 0 (fun l => rngs (-9223372036854775808) 9223372036854775807 l ((relsWr 126).pre l → shortSVC (fun o => (relsWr 126).post l o) l)) := by kernel_rfl
theorem shFar_cond : Can.condT canShFar Try.prog X2 tabR4 relsWr 64 20 = inp 12 0 18446744073709551615 (fun l => rngs 0 18446744073709551615 l ((relsWr 127).pre l → shFarVC ((relsWr 127).post l [0]) l)) := by kernel_rfl
theorem shFin_cond : Can.condT canShFin Try.prog X2 tabR4 relsWr 64 20 = inp 12 0 18446744073709551615 (fun l => rngs 0 18446744073709551615 l ((relsWr 124).pre l → shFinVC (fun o => (relsWr 124).post l o) l)) := by kernel_rfl
theorem call_bytes {a : List Int} {K : List Int → Prop} (ha : r32 a) (h : ∀ o : List Int, o.length = 28 → rng 256 o → valB o = val32 a → K o) : callK 28 28 a K := callK_of ha fun o lo ho => h o lo ho.1 ho.2
theorem written_con : ConOk Try.prog relsWr 38 canWritten.con := con_of_can (can_of_condT hX2 hm2 (tab := tabR4) tabWr0_ok 20 (by decide) (by
  rw [written_cond]
  refine inp_of _ _ _ _ fun l hl => rngs_of _ _ fun _ hp => ?_
  have hp' : r32 l := hp
  suffices h : writtenV1 (fun o => (relsWr 125).post l o) l from ⟨h, h⟩
  refine call_bytes (rng_take _ hp') fun X lX rX vX => ?_
  have key : callK 28 28 (l.drop 7) fun Y => (relsWr 125).post l (4 :: (X ++ Y)) := call_bytes (rng_drop _ hp') fun Y lY rY vY => by
    have q1 : cX (4 :: (X ++ Y)) = X := by simp only [cX, List.drop_succ_cons, List.drop_zero]; exact take_app lX
    have q2 : cY (4 :: (X ++ Y)) = Y := by simp only [cY, List.drop_succ_cons]; exact drop_app lX
    exact ⟨⟨by decide, by decide, rng_append rX rY⟩, rfl, by rw [q1]; exact vX, by rw [q2]; exact vY⟩
  exact ⟨key, key⟩))
theorem wrap_u8_small {x : Int} (h0 : 0 ≤ x) (h1 : x ≤ 255) : IntKind.u8.wrap x = x := wrap_of_fits (k := .u8) ⟨h0, h1⟩
theorem shortS_con : ConOk Try.prog relsWr 39 canShortS.con := con_of_can (can_of_condT hX2 hm2 (tab := tabR4) tabWr0_ok 20 (by decide) (by
  rw [shortS_cond]
  refine inp_of _ _ _ _ fun l hl => rngs_of _ _ fun _ hp => ?_
  have hp' : r32 l := hp
  refine binR_of (binR_of (convR_of ?_))
  have e : IntKind.u8.wrap (binFn .add .i64 2 (binFn .and .i64 (nth 0 l 7) 1)) = 2 + nth 0 l 7 % 2 := by
    rw [and_i64_1, add_i64 _ _ (by omega) (by omega), wrap_u8_small (by omega) (by omega)]
  rw [e]
  suffices h : callK 28 28 (l.take 7) fun X => (relsWr 126).post l ((2 + nth 0 l 7 % 2) :: X) ∧ (relsWr 126).post l ((2 + nth 0 l 7 % 2) :: X) from ⟨h, h⟩
  refine call_bytes (rng_take _ hp') fun X lX rX vX => ?_
  have key : (relsWr 126).post l ((2 + nth 0 l 7 % 2) :: X) := ⟨⟨by omega, by omega, rX⟩, rfl, vX⟩
  exact ⟨key, key⟩))
theorem shFar_con : ConOk Try.prog relsWr 64 canShFar.con := con_of_can (can_of_condT hX2 hm2 (tab := tabR4) tabWr0_ok 20 (by decide) (by
  rw [shFar_cond]
  refine inp_of _ _ _ _ fun l hl => rngs_of _ _ fun hb hp => ?_
  obtain ⟨ho, _, hz⟩ : ok3 l 0 ∧ (∃ P, Rep bF (tri3 l 0) P) ∧ dec64 (el4 l 2) = 0 := hp
  refine isZ_of ho.2.2 (fun _ => fun P hP => ?_) fun k => (k hz).elim
  match P, hP with
  | none, _ => exact rfl
  | some (x, y), hP => exact (hP.1 hz).elim))
theorem or_two (a : Int) : binFn .or .u8 2 (a % 2) = 2 + a % 2 := by
  have h : a % 2 = 0 ∨ a % 2 = 1 := by omega
  rcases h with h | h <;> rw [h] <;> decide +kernel
theorem valB_mod2 {l : List Int} {n : Nat} (h : l.length = n + 1) : valB l % 2 = nth 0 l n % 2 := by
  have e : l = l.dropLast ++ [l.getLastD 0] := by
    match l, h with
    | a :: l, _ => simp [List.getLastD_eq_getLast?, List.getLast?_cons]; exact (List.dropLast_concat_getLast (List.cons_ne_nil a l)).symm ▸ by simp [List.getLast_eq_getLastD]
  rw [← last_at h]
  generalize l.getLastD 0 = z at *
  rw [e, valB, List.reverse_append]
  simp only [List.reverse_cons, List.reverse_nil, List.nil_append, List.singleton_append, valL]
  omega
theorem shFin_con : ConOk Try.prog relsWr 64 canShFin.con := con_of_can (can_of_condT hX2 hm2 (tab := tabR4) tabWr0_ok 20 (by decide) (by
  rw [shFin_cond]
  refine inp_of _ _ _ _ fun l hl => rngs_of _ _ fun hb hp => ?_
  obtain ⟨ho, _, hz⟩ : ok3 l 0 ∧ (∃ P, Rep bF (tri3 l 0) P) ∧ dec64 (el4 l 2) ≠ 0 := hp
  have hx : Elt (el4 l 0) _ := elt_of (by omega) ho.1
  have hy : Elt (el4 l 1) _ := elt_of (by omega) ho.2.1
  have hzz : Elt (el4 l 2) _ := elt_of (by omega) ho.2.2
  refine isZ_of ho.2.2 (fun k => (hz k).elim) fun _ => callU_inv hzz fun i hi => callU_2 6 (fun a b => a * b) rfl hx hi fun a ha => callU_2 6 (fun a b => a * b) rfl hy hi fun b hb' => callU_get hb' fun Y lY rY vY eY => binR_of (binR_of (callU_get ha fun X lX rX vX eX => ?_))
  show ∀ P, Rep bF (tri3 l 0) P → ShB _ P
  intro P hP
  match P, hP with
  | none, hP => exact (hz hP.2.1).elim
  | some (x, y), hP =>
    obtain ⟨_, h2, h3, h4⟩ := hP
    have i1 : dec64 (el4 l 0) * iv (dec64 (el4 l 2)) = x := by
      refine eq_of_mul good hz ?_
      rw [inv_mul_eq good hz]
      exact h2
    have i2 : dec64 (el4 l 1) * iv (dec64 (el4 l 2)) = y := by
      refine eq_of_mul good hz ?_
      rw [inv_mul_eq good hz]
      exact h3
    rw [and_u8_1, or_two]
    have e27 : (y.val : Int) % 2 = nth 0 Y 27 % 2 := by
      have : tF (valB Y) = y := by rw [eY]; exact i2
      rw [← this, tF_val (valB_nonneg rY) vY, valB_mod2 lY]
    refine ⟨by simp [lX], ⟨by omega, by omega, rX⟩, by rw [e27]; rfl, vX, ?_, h4⟩
    show tF (valB X) = x
    rw [eX]; exact i1))
def tabWr : List (FuncId × Con) := [(38, canWritten.con), (39, canShortS.con), (64, canShFin.con)]
def tabWf : List (FuncId × Con) := [(64, canShFar.con)]
end Go.Sx

/- Element.Select into its second source. -/
set_option maxRecDepth 100000
set_option maxHeartbeats 4000000
namespace Go.Sx
open Go.Proofs Go.FP Go.EC
/-- 123: the choice by a number 0 or 1 (0: what was there). -/
def relSelI : RelSpec := { pre := fun i => 0 ≤ nth 0 i 0 ∧ nth 0 i 0 ≤ 1, post := fun i o => (nth 0 i 0 = 0 → o = (i.drop 1).take 4) ∧ (nth 0 i 0 = 1 → o = i.drop 5) }
def relsL (n : Nat) : RelSpec := if n = 123 then relSelI else relsWr n
theorem tabL_W {t : List (FuncId × Con)} (h0 : (t.all fun x => x.2.id != 123) = true) (h : ∀ f con, (f, con) ∈ t → ConOk Try.prog relsWr f con) : ∀ f con, (f, con) ∈ t → ConOk Try.prog relsL f con := by
  intro f con hm
  have := List.all_eq_true.1 h0 _ hm
  simp only [bne_iff_ne, ne_eq] at this
  exact (h f con hm).lift (by simp [relsL, this])
def canSelI : Can := { id := 123, kinds := .i64 :: ks .u64 8, args := [pt 0, pt 1, pt 0, v1 .i64 0], hp := [rw_ (vs .u64 1 4), ro (vs .u64 5 4)], outs := ks .u64 4, res := pt 0, hpE := [vs .u64 9 4, vs .u64 5 4], new := [] }
def tabM : List (FuncId × Con) := [(111, canCmov.con)]
theorem tabM_ok : ∀ f con, (f, con) ∈ tabM → ConOk Try.prog relsL f con := tabCons (cmov_ok.lift rfl) (fun f con h => by cases h)
def selVC (K : List Int → Prop) (l : List Int) : Prop := convR .u64 (nth 0 l 0) fun d =>
  callK 12 1 [d, nth 0 l 1, nth 0 l 5] (one1 fun a => callK 12 1 [d, nth 0 l 2, nth 0 l 6] (one1 fun b => callK 12 1 [d, nth 0 l 3, nth 0 l 7] (one1 fun c => callK 12 1 [d, nth 0 l 4, nth 0 l 8] (one1 fun e => K [a, b, c, e]))))
theorem selI_cond : Can.condT canSelI Try.prog X2 tabM relsL 85 9 = alln 9 fun l => fitsC (.i64 :: ks .u64 8) l ((relsL 123).pre l → selVC (fun o => (relsL 123).post l o) l) := by kernel_rfl
theorem cmovK {c x y : Int} {K : Int → Prop} (h : c = 0 ∨ c = 1) (h0 : c = 0 → K x) (h1 : c = 1 → K y) : callK 12 1 [c, x, y] (one1 K) := by
  refine callK_of (show 0 ≤ c ∧ c ≤ 1 by omega) fun o lo ho => ?_
  match o, lo with
  | [r], _ =>
    obtain ⟨a, b⟩ : (c = 0 → r = x) ∧ (c = 1 → r = y) := ho
    rcases h with h | h
    · rw [show r = x from a h]; exact h0 h
    · rw [show r = y from b h]; exact h1 h
theorem selI_con : ConOk Try.prog relsL 85 canSelI.con := con_of_can (can_of_condT hX2 hm2 (tab := tabM) tabM_ok 9 (by decide) (by
  rw [selI_cond]
  refine alln_len _ fun l hl => fitsC_intro _ _ fun hp => ?_
  obtain ⟨h0, h1⟩ : 0 ≤ nth 0 l 0 ∧ nth 0 l 0 ≤ 1 := hp
  match l, hl with
  | [c, x0, x1, x2, x3, y0, y1, y2, y3], _ =>
    have hc : c = 0 ∨ c = 1 := by
      simp only [nth] at h0 h1
      omega
    have hw : IntKind.u64.wrap c = c := wrap_of_fits (k := .u64) (by simp only [Fits, kmin, kmax]; omega)
    refine convR_of ?_
    simp only [nth, hw]
    have e0 : c = 0 → (relsL 123).post [c, x0, x1, x2, x3, y0, y1, y2, y3] [x0, x1, x2, x3] := fun h => ⟨fun _ => rfl, fun k => by simp only [nth] at k; omega⟩
    have e1 : c = 1 → (relsL 123).post [c, x0, x1, x2, x3, y0, y1, y2, y3] [y0, y1, y2, y3] := fun h => ⟨fun k => by simp only [nth] at k; omega, fun _ => rfl⟩
    refine cmovK hc (fun h => ?_) fun h => ?_
    · exact cmovK hc (fun _ => cmovK hc (fun _ => cmovK hc (fun _ => e0 h) fun k => by omega) fun k => by omega) fun k => by omega
    · exact cmovK hc (fun k => by omega) fun _ => cmovK hc (fun k => by omega) fun _ => cmovK hc (fun k => by omega) fun _ => e1 h))
def callL (id n : Nat) (i : List Int) (K : List Int → Prop) : Prop := (relsL id).pre i ∧ alln n fun o => (relsL id).post i o → K o
theorem callL_of {id n : Nat} {i : List Int} {K : List Int → Prop} (hp : (relsL id).pre i) (h : ∀ o : List Int, o.length = n → (relsL id).post i o → K o) : callL id n i K := ⟨hp, alln_len n h⟩
/-- The choice between two elements: 0, what was there. -/
theorem sel_of {c : Int} {a b : List Int} {x y : F} {K : List Int → Prop} (hc : c = 0 ∨ c = 1) (ha : Elt a x) (hb : Elt b y) (h0 : c = 0 → ∀ o, Elt o x → K o) (h1 : c = 1 → ∀ o, Elt o y → K o) : callL 123 4 (c :: (a ++ b)) K := by
  refine callL_of (show 0 ≤ c ∧ c ≤ 1 by omega) fun o lo ho => ?_
  obtain ⟨e0, e1⟩ : (c = 0 → o = ((c :: (a ++ b)).drop 1).take 4) ∧ (c = 1 → o = (c :: (a ++ b)).drop 5) := ho
  rcases hc with h | h
  · have := e0 h
    rw [List.drop_succ_cons, List.drop_zero, take_app ha.len] at this
    rw [this]
    exact h0 h a ha
  · have := e1 h
    rw [List.drop_succ_cons, drop_app ha.len] at this
    rw [this]
    exact h1 h b hb
end Go.Sx
