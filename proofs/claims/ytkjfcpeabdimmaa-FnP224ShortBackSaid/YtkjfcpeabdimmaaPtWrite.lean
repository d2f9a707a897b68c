/- Points told by the reference in both forms, and by the package in the shorter one. -/
import Derived.Test.YtkjfcpeabdimmaaPtAlike
set_option linter.unusedVariables false
set_option linter.unusedSimpArgs false
set_option linter.constructorNameAsVariable false
set_option maxRecDepth 100000
set_option maxHeartbeats 4000000
namespace Go.Sx
open Go.Proofs Go.FP Go.EC
/-- The bytes are the shorter form of the point. -/
def ShB (l : List Int) : Pt p → Prop
  | none => l = [0]
  | some (x, y) => l.length = 29 ∧ rng 256 l ∧ nth 0 l 0 = 2 + (y.val : Int) % 2 ∧ valB (l.drop 1) < pI ∧ tF (valB (l.drop 1)) = x ∧ onC x y
theorem ShB.inj {l m : List Int} : ∀ {P : Pt p}, ShB l P → ShB m P → l = m
  | none, h, k => by
    have h1 : l = [0] := h
    have k1 : m = [0] := k
    rw [h1, k1]
  | some (x, y), h, k => by
    obtain ⟨l1, r1, f1, a1, c1, _⟩ := h
    obtain ⟨l2, r2, f2, a2, c2, _⟩ := k
    match l, m, l1, l2 with
    | a :: l, c :: m, l1, l2 =>
      have e1 : a = c := by
        have e : nth 0 (a :: l) 0 = nth 0 (c :: m) 0 := by rw [f1, f2]
        exact e
      have e2 : l = m := bytes_eq (b := l) (c := m) r1.2.2 r2.2.2 (by simp at l1 l2; omega) a1 a2 (by rw [show tF (valB l) = x from c1, show tF (valB m) = x from c2])
      rw [e1, e2]
def relWritten : RelSpec := { pre := r32, post := fun i o => rng 256 o ∧ o.take 1 = [4] ∧ valB (cX o) = val32 (i.take 7) ∧ valB (cY o) = val32 (i.drop 7) }
def relShortS : RelSpec := { pre := r32, post := fun i o => rng 256 o ∧ nth 0 o 0 = 2 + nth 0 i 7 % 2 ∧ valB (o.drop 1) = val32 (i.take 7) }
def relShFar : RelSpec := { pre := fun i => ok3 i 0 ∧ (∃ P, Rep bF (tri3 i 0) P) ∧ dec64 (el4 i 2) = 0, post := fun i o => ∀ P, Rep bF (tri3 i 0) P → ShB o P }
def relShFin : RelSpec := { pre := fun i => ok3 i 0 ∧ (∃ P, Rep bF (tri3 i 0) P) ∧ dec64 (el4 i 2) ≠ 0, post := fun i o => ∀ P, Rep bF (tri3 i 0) P → ShB o P }
/-- 124, 127: a point told in the shorter form (not far; far); 125, 126: the reference's longer and shorter form; 120, 121: rows over bytes that are a point; that are none. -/
def relsWr (n : Nat) : RelSpec := if n = 120 then { pre := isEnc, post := postRow } else if n = 121 then { pre := fun i => ¬ isEnc i, post := postRow } else if n = 124 then relShFin else if n = 125 then relWritten else if n = 126 then relShortS else if n = 127 then relShFar else relsR4 n
theorem tabWr0_ok : ∀ f con, (f, con) ∈ tabR4 → ConOk Try.prog relsWr f con := by
  intro f con hm
  have h0 : (tabR4.all fun x => decide (x.2.id < 120)) = true := by decide
  have := List.all_eq_true.1 h0 _ hm
  simp only [decide_eq_true_eq] at this
  refine (tabR4_ok f con hm).lift ?_
  unfold relsWr
  rw [if_neg (by omega), if_neg (by omega), if_neg (by omega), if_neg (by omega), if_neg (by omega), if_neg (by omega)]
def canWritten : Can := { id := 125, kinds := ks .i64 14, args := [crv, .one (.g [.bool false, .slice 1 0 7 7, .slice 2 0 7 7])], hp := [ro fold4, ro (vs .i64 0 7), ro (vs .i64 7 7)], outs := ks .u8 57, res := .one (.s (.sliceU 3 0 57)), hpE := [fold4, vs .i64 0 7, vs .i64 7 7], new := [vs .u8 14 57] }
def canShortS : Can := { id := 126, kinds := ks .i64 14, args := [crv, .one (.g [.bool false, .slice 1 0 7 7, .slice 2 0 7 7])], hp := [ro fold4, ro (vs .i64 0 7), ro (vs .i64 7 7)], outs := ks .u8 29, res := .one (.s (.sliceU 3 0 29)), hpE := [fold4, vs .i64 0 7, vs .i64 7 7], new := [vs .u8 14 29] }
def canShFar : Can := { id := 127, kinds := ks .u64 12, args := [pt 0], hp := [sp 1, ro (vs .u64 0 4), ro (vs .u64 4 4), ro (vs .u64 8 4)], outs := ks .u8 1, res := .one (.s (.slice 4 0 1 29)), hpE := [(sp 1).cs, vs .u64 0 4, vs .u64 4 4, vs .u64 8 4], new := [vs .u8 12 1] }
def canShFin : Can := { id := 124, kinds := ks .u64 12, args := [pt 0], hp := [sp 1, ro (vs .u64 0 4), ro (vs .u64 4 4), ro (vs .u64 8 4)], outs := ks .u8 29, res := .one (.s (.slice 4 0 29 29)), hpE := [(sp 1).cs, vs .u64 0 4, vs .u64 4 4, vs .u64 8 4], new := [vs .u8 12 29] }
def callW (id n : Nat) (i : List Int) (K : List Int → Prop) : Prop := (relsWr id).pre i ∧ alln n fun o => (relsWr id).post i o → K o
theorem callW_of {id n : Nat} {i : List Int} {K : List Int → Prop} (hp : (relsWr id).pre i) (h : ∀ o : List Int, o.length = n → (relsWr id).post i o → K o) : callW id n i K := ⟨hp, alln_len n h⟩
def binR (op : BinOp) (k : IntKind) (x y : Int) (K : Int → Prop) : Prop := ∀ r : Int, r = binFn op k x y → K r
theorem binR_of {op : BinOp} {k : IntKind} {x y : Int} {K : Int → Prop} (h : K (binFn op k x y)) : binR op k x y K := fun r e => e ▸ h
def convR (k : IntKind) (x : Int) (K : Int → Prop) : Prop := ∀ r : Int, r = k.wrap x → K r
theorem convR_of {k : IntKind} {x : Int} {K : Int → Prop} (h : K (k.wrap x)) : convR k x K := fun r e => e ▸ h
def writtenV1 (Q : List Int → Prop) (l : List Int) : Prop := callK 28 28 (l.take 7) fun X => (callK 28 28 (l.drop 7) fun Y => Q (4 :: (X ++ Y))) ∧ (callK 28 28 (l.drop 7) fun Y => Q (4 :: (X ++ Y)))
def writtenVC (Q : List Int → Prop) (l : List Int) : Prop := writtenV1 Q l ∧ writtenV1 Q l
def shortSVC (Q : List Int → Prop) (l : List Int) : Prop := binR .and .i64 (nth 0 l 7) 1 fun a => binR .add .i64 2 a fun b => convR .u8 b fun c => (callK 28 28 (l.take 7) fun X => Q (c :: X) ∧ Q (c :: X)) ∧ (callK 28 28 (l.take 7) fun X => Q (c :: X) ∧ Q (c :: X))
def shFinVC (Q : List Int → Prop) (l : List Int) : Prop :=
  callU 14 1 (el4 l 2) (one1 fun r => byteK r 1 False (callU 17 4 (el4 l 2) fun i => callU 6 4 (el4 l 0 ++ i) fun x => callU 6 4 (el4 l 1 ++ i) fun y => callU 68 28 y fun Y => binR .and .u8 (nth 0 Y 27) 1 fun a => binR .or .u8 2 a fun b => callU 68 28 x fun X => Q (b :: X)))
def shFarVC (A : Prop) (l : List Int) : Prop :=
  callU 14 1 (el4 l 2) (one1 fun r => byteK r 1 A (callU 17 4 (el4 l 2) fun i => callU 6 4 (el4 l 0 ++ i) fun x => callU 6 4 (el4 l 1 ++ i) fun y => callU 68 28 y fun Y => binR .and .u8 (nth 0 Y 27) 1 fun a => binR .or .u8 2 a fun b => callU 68 28 x fun X => False))
theorem written_cond : Can.condT canWritten Try.prog X2 tabR4 relsWr 38 20 = inp 14 0 0 (fun l => rngs (-9223372036854775808) 9223372036854775807 l ((relsWr 125).pre l → writtenVC (fun o => (relsWr 125).post l o) l)) := by kernel_rfl
theorem shortS_cond : Can.condT canShortS Try.prog X2 tabR4 relsWr 39 20 = inp 14 0 0 (fun l => rngs (-9223372036854775808) 9223372036854775807 l ((relsWr 126).pre l → shortSVC (fun o => (relsWr 126).post l o) l)) := by kernel_rfl
theorem shFar_cond : Can.condT canShFar Try.prog X2 tabR4 relsWr 64 20 = inp 12 0 18446744073709551615 (fun l => rngs 0 18446744073709551615 l ((relsWr 127).pre l → shFarVC ((relsWr 127).post l [0]) l)) := by kernel_rfl
theorem shFin_cond : Can.condT canShFin Try.prog X2 tabR4 relsWr 64 20 = inp 12 0 18446744073709551615 (fun l => rngs 0 18446744073709551615 l ((relsWr 124).pre l → shFinVC (fun o => (relsWr 124).post l o) l)) := by kernel_rfl
theorem call_bytes {a : List Int} {K : List Int → Prop} (ha : r32 a) (h : ∀ o : List Int, o.length = 28 → rng 256 o → valB o = val32 a → K o) : callK 28 28 a K := callK_of ha fun o lo ho => h o lo ho.1 ho.2
theorem written_con : ConOk Try.prog relsWr 38 canWritten.con := con_of_can (can_of_condT hX2 hm2 (tab := tabR4) tabWr0_ok 20 (by decide) (by
  rw [written_cond]
  refine inp_of _ _ _ _ fun l hl => rngs_of _ _ fun _ hp => ?_
  have hp' : r32 l := hp
  suffices h : writtenV1 (fun o => (relsWr 125).post l o) l from ⟨h, h⟩
  refine call_bytes (rng_take _ hp') fun X lX rX vX => ?_
  have key : callK 28 28 (l.drop 7) fun Y => (relsWr 125).post l (4 :: (X ++ Y)) := call_bytes (rng_drop _ hp') fun Y lY rY vY => by
    have q1 : cX (4 :: (X ++ Y)) = X := by simp only [cX, List.drop_succ_cons, List.drop_zero]; exact take_app lX
    have q2 : cY (4 :: (X ++ Y)) = Y := by simp only [cY, List.drop_succ_cons]; exact drop_app lX
    exact ⟨⟨by decide, by decide, rng_append rX rY⟩, rfl, by rw [q1]; exact vX, by rw [q2]; exact vY⟩
  exact ⟨key, key⟩))
theorem wrap_u8_small {x : Int} (h0 : 0 ≤ x) (h1 : x ≤ 255) : IntKind.u8.wrap x = x := wrap_of_fits (k := .u8) ⟨h0, h1⟩
theorem shortS_con : ConOk Try.prog relsWr 39 canShortS.con := con_of_can (can_of_condT hX2 hm2 (tab := tabR4) tabWr0_ok 20 (by decide) (by
  rw [shortS_cond]
  refine inp_of _ _ _ _ fun l hl => rngs_of _ _ fun _ hp => ?_
  have hp' : r32 l := hp
  refine binR_of (binR_of (convR_of ?_))
  have e : IntKind.u8.wrap (binFn .add .i64 2 (binFn .and .i64 (nth 0 l 7) 1)) = 2 + nth 0 l 7 % 2 := by
    rw [and_i64_1, add_i64 _ _ (by omega) (by omega), wrap_u8_small (by omega) (by omega)]
  rw [e]
  suffices h : callK 28 28 (l.take 7) fun X => (relsWr 126).post l ((2 + nth 0 l 7 % 2) :: X) ∧ (relsWr 126).post l ((2 + nth 0 l 7 % 2) :: X) from ⟨h, h⟩
  refine call_bytes (rng_take _ hp') fun X lX rX vX => ?_
  have key : (relsWr 126).post l ((2 + nth 0 l 7 % 2) :: X) := ⟨⟨by omega, by omega, rX⟩, rfl, vX⟩
  exact ⟨key, key⟩))
theorem shFar_con : ConOk Try.prog relsWr 64 canShFar.con := con_of_can (can_of_condT hX2 hm2 (tab := tabR4) tabWr0_ok 20 (by decide) (by
  rw [shFar_cond]
  refine inp_of _ _ _ _ fun l hl => rngs_of _ _ fun hb hp => ?_
  obtain ⟨ho, _, hz⟩ : ok3 l 0 ∧ (∃ P, Rep bF (tri3 l 0) P) ∧ dec64 (el4 l 2) = 0 := hp
  refine isZ_of ho.2.2 (fun _ => fun P hP => ?_) fun k => (k hz).elim
  match P, hP with
  | none, _ => exact rfl
  | some (x, y), hP => exact (hP.1 hz).elim))
theorem or_two (a : Int) : binFn .or .u8 2 (a % 2) = 2 + a % 2 := by
  have h : a % 2 = 0 ∨ a % 2 = 1 := by omega
  rcases h with h | h <;> rw [h] <;> decide +kernel
theorem valB_mod2 {l : List Int} {n : Nat} (h : l.length = n + 1) : valB l % 2 = nth 0 l n % 2 := by
  have e : l = l.dropLast ++ [l.getLastD 0] := by
    match l, h with
    | a :: l, _ => simp [List.getLastD_eq_getLast?, List.getLast?_cons]; exact (List.dropLast_concat_getLast (List.cons_ne_nil a l)).symm ▸ by simp [List.getLast_eq_getLastD]
  rw [← last_at h]
  generalize l.getLastD 0 = z at *
  rw [e, valB, List.reverse_append]
  simp only [List.reverse_cons, List.reverse_nil, List.nil_append, List.singleton_append, valL]
  omega
theorem shFin_con : ConOk Try.prog relsWr 64 canShFin.con := con_of_can (can_of_condT hX2 hm2 (tab := tabR4) tabWr0_ok 20 (by decide) (by
  rw [shFin_cond]
  refine inp_of _ _ _ _ fun l hl => rngs_of _ _ fun hb hp => ?_
  obtain ⟨ho, _, hz⟩ : ok3 l 0 ∧ (∃ P, Rep bF (tri3 l 0) P) ∧ dec64 (el4 l 2) ≠ 0 := hp
  have hx : Elt (el4 l 0) _ := elt_of (by omega) ho.1
  have hy : Elt (el4 l 1) _ := elt_of (by omega) ho.2.1
  have hzz : Elt (el4 l 2) _ := elt_of (by omega) ho.2.2
  refine isZ_of ho.2.2 (fun k => (hz k).elim) fun _ => callU_inv hzz fun i hi => callU_2 6 (fun a b => a * b) rfl hx hi fun a ha => callU_2 6 (fun a b => a * b) rfl hy hi fun b hb' => callU_get hb' fun Y lY rY vY eY => binR_of (binR_of (callU_get ha fun X lX rX vX eX => ?_))
  show ∀ P, Rep bF (tri3 l 0) P → ShB _ P
  intro P hP
  match P, hP with
  | none, hP => exact (hz hP.2.1).elim
  | some (x, y), hP =>
    obtain ⟨_, h2, h3, h4⟩ := hP
    have i1 : dec64 (el4 l 0) * iv (dec64 (el4 l 2)) = x := by
      refine eq_of_mul good hz ?_
      rw [inv_mul_eq good hz]
      exact h2
    have i2 : dec64 (el4 l 1) * iv (dec64 (el4 l 2)) = y := by
      refine eq_of_mul good hz ?_
      rw [inv_mul_eq good hz]
      exact h3
    rw [and_u8_1, or_two]
    have e27 : (y.val : Int) % 2 = nth 0 Y 27 % 2 := by
      have : tF (valB Y) = y := by rw [eY]; exact i2
      rw [← this, tF_val (valB_nonneg rY) vY, valB_mod2 lY]
    refine ⟨by simp [lX], ⟨by omega, by omega, rX⟩, by rw [e27]; rfl, vX, ?_, h4⟩
    show tF (valB X) = x
    rw [eX]; exact i1))
def tabWr : List (FuncId × Con) := [(38, canWritten.con), (39, canShortS.con), (64, canShFin.con)]
def tabWf : List (FuncId × Con) := [(64, canShFar.con)]
end Go.Sx
