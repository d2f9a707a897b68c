/- Elements: Bytes, IsZero, Equal. -/
import Derived.Test.YtkjfcpeabdimmaaPtB
set_option linter.unusedVariables false
set_option linter.unusedSimpArgs false
set_option linter.constructorNameAsVariable false
set_option maxRecDepth 100000
set_option maxHeartbeats 4000000
namespace Go.Sx
open Go.Proofs Go.FP Go.EC
/-- The bytes of an element, the highest first. -/
def relGet : RelSpec := { pre := ok64, post := fun i o => rng 256 o ∧ valB o < pI ∧ tF (valB o) = dec64 i }
def relsQ (n : Nat) : RelSpec := if n = 68 then relGet else relsF n
theorem relsQ_F {n : Nat} (h : n < 68) : relsQ n = relsF n := by
  unfold relsQ
  rw [if_neg (by omega)]
def canGet : Can := { id := 68, kinds := ks .u64 4, args := [pt 0], hp := [ro (vs .u64 0 4)], outs := ks .u8 28, res := .one (.s (.slice 1 0 28 28)), hpE := [vs .u64 0 4], new := [vs .u8 4 28] }
def canIsZero : Can := { id := 14, kinds := ks .u64 4, args := [pt 0], hp := [ro (vs .u64 0 4)], outs := [.i64], res := v1 .i64 4, hpE := [vs .u64 0 4], new := [] }
def canEqual : Can := { id := 15, kinds := ks .u64 8, args := [pt 0, pt 1], hp := [ro (vs .u64 0 4), ro (vs .u64 4 4)], outs := [.i64], res := v1 .i64 8, hpE := [vs .u64 0 4, vs .u64 4 4], new := [] }
theorem tabQ_ok : ∀ f con, (f, con) ∈ tabB → ConOk Try.prog relsQ f con := by
  intro f con hm
  refine (tabB_ok f con hm).lift (relsQ_F ?_)
  have h0 : (tabB.all fun x => decide (x.2.id < 68)) = true := by decide
  simpa using List.all_eq_true.1 h0 _ hm
theorem get_cond : Can.condT canGet Try.prog X2 tabB relsQ 88 9 = inp 4 0 18446744073709551615 (fun l => rngs 0 18446744073709551615 l ((relsQ 68).pre l → getVC l fun b => (relsQ 68).post l b)) := by kernel_rfl
theorem get_con : ConOk Try.prog relsQ 88 canGet.con := con_of_can (can_of_condT hX2 hm2 (tab := tabB) tabQ_ok 9 (by decide) (by
  rw [get_cond]
  exact inp_of _ _ _ _ fun l hl => rngs_of _ _ fun _ hp => get_of hp fun b hl' hr hv he => ⟨hr, hv, he⟩))
def tabG : List (FuncId × Con) := (88, canGet.con) :: tabB
theorem tabG_ok : ∀ f con, (f, con) ∈ tabG → ConOk Try.prog relsQ f con := by
  intro f con hm
  rcases List.mem_cons.1 hm with e | e
  · cases e; exact get_con
  · exact tabQ_ok f con e
def callQ (id n : Nat) (i : List Int) (K : List Int → Prop) : Prop := (relsQ id).pre i ∧ alln n fun o => (relsQ id).post i o → K o
theorem callQ_of {id n : Nat} {i : List Int} {K : List Int → Prop} (hp : (relsQ id).pre i) (h : ∀ o : List Int, o.length = n → (relsQ id).post i o → K o) : callQ id n i K := ⟨hp, alln_len n h⟩
def zero28 : List Int := [0, 0, 0, 0, 0, 0, 0, 0, 0, 0, 0, 0, 0, 0, 0, 0, 0, 0, 0, 0, 0, 0, 0, 0, 0, 0, 0, 0]
theorem isZero_cond : Can.condT canIsZero Try.prog X2 tabG relsQ 104 9 = inp 4 0 18446744073709551615 (fun l => rngs 0 18446744073709551615 l ((relsQ 14).pre l → callQ 68 28 l fun b => callQ 18 1 (b ++ zero28) fun r => (relsQ 14).post l r)) := by kernel_rfl
theorem equal_cond : Can.condT canEqual Try.prog X2 tabG relsQ 99 9 = inp 8 0 18446744073709551615 (fun l => rngs 0 18446744073709551615 l ((relsQ 15).pre l → callQ 68 28 (l.take 4) fun b => callQ 68 28 (l.drop 4) fun c => callQ 18 1 (b ++ c) fun r => (relsQ 15).post l r)) := by kernel_rfl
theorem zero28_ok : rng 256 zero28 ∧ valB zero28 = 0 := by
  refine ⟨?_, by decide⟩
  simp only [zero28, rng]
  decide
theorem tF_zero : tF 0 = 0 := by decide +kernel
theorem ct_of {b c : List Int} {q : Prop} {K : List Int → Prop} (hb : rng 256 b) (hc : rng 256 c) (lb : b.length = 28) (lc : c.length = 28) (vb : valB b < pI) (vc : valB c < pI) (hq : tF (valB b) = tF (valB c) ↔ q) (h : ∀ r, isB r q → K r) : callQ 18 1 (b ++ c) K :=
  callQ_of trivial fun r lr hr => h r (by
    match r, lr with
    | [x], _ =>
      have hr' : isB [x] ((b ++ c).take 28 = (b ++ c).drop 28) := hr
      rw [take_app lb, drop_app lb] at hr'
      refine ⟨fun k => hr'.1 (bytes_eq hb hc (by omega) vb vc (hq.2 k)), fun k => hr'.2 fun e => k (hq.1 (by rw [e]))⟩)
theorem isZero_con : ConOk Try.prog relsQ 104 canIsZero.con := con_of_can (can_of_condT hX2 hm2 (tab := tabG) tabG_ok 9 (by decide) (by
  rw [isZero_cond]
  refine inp_of _ _ _ _ fun l hl => rngs_of _ _ fun _ hp => callQ_of hp fun b lb hb => ?_
  obtain ⟨rb, vb, eb⟩ : rng 256 b ∧ valB b < pI ∧ tF (valB b) = dec64 l := hb
  exact ct_of (q := dec64 l = 0) rb zero28_ok.1 lb rfl vb (by rw [zero28_ok.2]; decide) (by rw [eb, zero28_ok.2, tF_zero]) fun r hr => hr))
theorem equal_con : ConOk Try.prog relsQ 99 canEqual.con := con_of_can (can_of_condT hX2 hm2 (tab := tabG) tabG_ok 9 (by decide) (by
  rw [equal_cond]
  refine inp_of _ _ _ _ fun l hl => rngs_of _ _ fun _ hp => callQ_of hp.1 fun b lb hb => callQ_of hp.2 fun c lc hc => ?_
  obtain ⟨rb, vb, eb⟩ : rng 256 b ∧ valB b < pI ∧ tF (valB b) = dec64 (l.take 4) := hb
  obtain ⟨rc, vc, ec⟩ : rng 256 c ∧ valB c < pI ∧ tF (valB c) = dec64 (l.drop 4) := hc
  exact ct_of (q := dec64 (l.take 4) = dec64 (l.drop 4)) rb rc lb lc vb vc (by rw [eb, ec]) fun r hr => hr))
end Go.Sx
