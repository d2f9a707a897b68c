/- Rows over slices of bytes: from the contracts by length to the call at every argument. -/
import Derived.Test.YtkjfcpeabdimmaaBaseSl
import Derived.Test.YtkjfcpeabdimmaaRowJoin
import Derived.ChangeSlices
set_option linter.unusedVariables false
set_option linter.unusedSimpArgs false
set_option linter.constructorNameAsVariable false
namespace Go.Sx
open Go Go.Proofs Go.ChangeShapes Go.WideShapes Go.ChangeAt Go.RowKit

/-- A slice as its class says; its numbers; its region. -/
def SlV (W : World) : Option Nat → Value → List Int → Base → Prop
  | some m, v, ns, bs => ∃ b o cap, v = .slice (some ⟨b, o, none⟩) m cap ∧ m ≤ cap ∧ ns.length = m ∧ Bs ns ∧ bs = [(b, o)] ∧ ∀ i : Nat, i < m → W.cell? ⟨b, o + i, none⟩ = some (.int .u8 (ns.getD i 0))
  | none, v, ns, bs => ∃ (n : Nat) (p : Option Addr) (cap : Nat), v = .slice p n cap ∧ ns = [(n : Int)] ∧ bs = [] ∧ Fits .i64 n
def SlAll (W : World) : List (Option Nat) → List Value → List Int → Base → Prop
  | [], vs, ns, bs => vs = [] ∧ ns = [] ∧ bs = []
  | c :: cls, vs, ns, bs => ∃ v vs' n1 n2 b1 b2, vs = v :: vs' ∧ ns = n1 ++ n2 ∧ bs = b1 ++ b2 ∧ SlV W c v n1 b1 ∧ SlAll W cls vs' n2 b2
theorem slAll_nil (W : World) : SlAll W [] [] [] [] := ⟨rfl, rfl, rfl⟩
theorem slAll_cons {W : World} {c : Option Nat} {cls : List (Option Nat)} {v : Value} {vs : List Value} {n1 n2 : List Int} {b1 b2 : Base} (h : SlV W c v n1 b1) (k : SlAll W cls vs n2 b2) : SlAll W (c :: cls) (v :: vs) (n1 ++ n2) (b1 ++ b2) := ⟨_, _, _, _, _, _, rfl, rfl, rfl, h, k⟩

theorem slAll_args {W : World} : ∀ (cls : List (Option Nat)) (vs : List Value) (ns : List Int) (bs : Base) (a c : List Int) (x y : Base), SlAll W cls vs ns bs → All2 (AV.R (a ++ (ns ++ c)) (x ++ (bs ++ y))) (slArgs a.length x.length cls) vs
  | [], vs, ns, bs, a, c, x, y, h => by
    obtain ⟨rfl, rfl, rfl⟩ := h
    trivial
  | some m :: cls, _, _, _, a, c, x, y, h => by
    obtain ⟨v, vs, n1, n2, b1, b2, rfl, rfl, rfl, ⟨b, o, cap, rfl, hle, hl, hB, rfl, hc⟩, k⟩ := h
    refine ⟨⟨(b, o), cap, ?_, by simp, hle⟩, ?_⟩
    · rw [List.getElem?_append_right (by omega)]
      simp
    · have := slAll_args cls vs n2 b2 (a ++ n1) c (x ++ [(b, o)]) y k
      simpa [List.append_assoc, hl] using this
  | none :: cls, _, _, _, a, c, x, y, h => by
    obtain ⟨v, vs, n1, n2, b1, b2, rfl, rfl, rfl, ⟨n, p, cap, rfl, rfl, rfl, hf⟩, k⟩ := h
    refine ⟨⟨n, p, cap, ?_, rfl, hf⟩, ?_⟩
    · rw [List.getElem?_append_right (by omega)]
      simp
    · have := slAll_args cls vs n2 b2 (a ++ [(n : Int)]) c x y k
      simpa [List.append_assoc] using this
theorem slAll_len {W : World} : ∀ (cls : List (Option Nat)) (vs : List Value) (ns : List Int) (bs : Base), SlAll W cls vs ns bs → ns.length = (slKinds cls).length ∧ ∀ b, (slHp b cls).length = bs.length
  | [], vs, ns, bs, h => by
    obtain ⟨rfl, rfl, rfl⟩ := h
    exact ⟨rfl, fun _ => rfl⟩
  | some m :: cls, _, _, _, h => by
    obtain ⟨v, vs, n1, n2, b1, b2, rfl, rfl, rfl, ⟨b, o, cap, rfl, hle, hl, hB, rfl, hc⟩, k⟩ := h
    obtain ⟨h1, h2⟩ := slAll_len cls vs n2 b2 k
    refine ⟨by simp [slKinds, ks, hl, h1], fun b' => ?_⟩
    simp only [slHp, List.length_cons, List.length_append, h2]
    simp; omega
  | none :: cls, _, _, _, h => by
    obtain ⟨v, vs, n1, n2, b1, b2, rfl, rfl, rfl, ⟨n, p, cap, rfl, rfl, rfl, hf⟩, k⟩ := h
    obtain ⟨h1, h2⟩ := slAll_len cls vs n2 b2 k
    refine ⟨by simp [slKinds, h1], fun b' => ?_⟩
    simp only [slHp, List.nil_append]
    exact h2 _
theorem slAll_cells {W : World} {β : Base} : ∀ (cls : List (Option Nat)) (vs : List Value) (ns : List Int) (bs : Base) (a c : List Int), SlAll W cls vs ns bs → ∀ (r : Nat) (cs : List Sc) (x : Nat × Nat), (slHp a.length cls)[r]? = some cs → bs[r]? = some x →
    ∀ (i : Nat) (s : Sc), cs[i]? = some s → ∃ v, W.cell? ⟨x.1, x.2 + i, none⟩ = some v ∧ s.R (a ++ (ns ++ c)) β v
  | [], vs, ns, bs, a, c, h, r, cs, x, e, _ => by simp [slHp] at e
  | some m :: cls, _, _, _, a, c, h, r, cs, x, e, ex => by
    obtain ⟨v, vs, n1, n2, b1, b2, rfl, rfl, rfl, ⟨b, o, cap, rfl, hle, hl, hB, rfl, hc⟩, k⟩ := h
    cases r with
    | zero =>
      simp [slHp] at e ex
      subst e ex
      intro i s hs
      simp only [Go.Sx.vs, List.getElem?_map] at hs
      cases hi : (List.range m)[i]? with
      | none => rw [hi] at hs; cases hs
      | some j =>
        rw [hi] at hs
        obtain rfl := Option.some.inj hs
        have hlt := lt_of_some hi
        simp at hlt
        have hj : j = i := by
          rw [List.getElem?_range hlt] at hi
          exact (Option.some.inj hi).symm
        subst hj
        refine ⟨_, hc j hlt, n1.getD j 0, ?_, rfl, ?_⟩
        · rw [List.getElem?_append_right (by omega), List.append_assoc, List.getElem?_append_left (by omega)]
          simp [List.getD, show j < n1.length by omega]
        · have hm : n1.getD j 0 ∈ n1 := by
            simp [List.getD, show j < n1.length by omega]
          exact hB _ hm
    | succ r =>
      have h2 := slAll_cells (β := β) cls vs n2 b2 (a ++ n1) c k r cs x (by simpa [slHp, hl] using e) (by simpa using ex)
      have he : a ++ n1 ++ (n2 ++ c) = a ++ (n1 ++ n2 ++ c) := by simp
      rw [he] at h2
      exact h2
  | none :: cls, _, _, _, a, c, h, r, cs, x, e, ex => by
    obtain ⟨v, vs, n1, n2, b1, b2, rfl, rfl, rfl, ⟨n, p, cap, rfl, rfl, rfl, hf⟩, k⟩ := h
    have h2 := slAll_cells (β := β) cls vs n2 b2 (a ++ [(n : Int)]) c k r cs x (by simpa [slHp] using e) (by simpa using ex)
    have he : a ++ [(n : Int)] ++ (n2 ++ c) = a ++ ([(n : Int)] ++ n2 ++ c) := by simp
    rw [he] at h2
    exact h2

theorem walkS {rels : Nat → RelSpec} {f : FuncId} {id : Nat} {cls : List (Option Nat)} {vs : List Value} {ns : List Int} {bs : Base} {W : World} (hC : CanOk Try.prog rels f (canSl id cls)) (hpost : (rels id).post = postRow) (h : SlAll W cls vs ns bs) (hpre : (rels id).pre ns) :
    Calls Try.prog f vs.toArray W fun e W' => e = .returned (.bool true) ∧ Below W.heap.size W W' := by
  obtain ⟨hl, hlh⟩ := slAll_len cls vs ns bs h
  have hro : ∀ (r : Nat) (g : Reg), (canSl id cls).hp[r]? = some g → g.rw = false ∧ g.it = none ∧ (slHp 0 cls)[r]? = some g.cs := fun r g e => by
    simp only [canSl, List.getElem?_map] at e
    cases hg : (slHp 0 cls)[r]? with
    | none => rw [hg] at e; cases e
    | some cs => rw [hg] at e; obtain rfl := Option.some.inj e; exact ⟨rfl, rfl, rfl⟩
  have hbk : ∀ (r : Nat) (g : Reg), (canSl id cls).hp[r]? = some g → g.bulk = none := fun r g e => by
    simp only [canSl, List.getElem?_map] at e
    cases hg : (slHp 0 cls)[r]? with
    | none => rw [hg] at e; cases e
    | some cs => rw [hg] at e; obtain rfl := Option.some.inj e; rfl
  have hM : Mem (canOld bs (canSl id cls).hp) ns bs (canSl id cls).hp W W := by
    refine ⟨by simp [canSl, hlh], ?_, ?_, ?_, ?_, Keep.refl _ _, ?_, ?_, ?_, fun r g x i e _ hb => by rw [hbk r g e] at hb; cases hb⟩
    · intro r g x e ex i c hc
      have := slAll_cells (β := bs) cls vs ns bs [] [] h r g.cs x (hro r g e).2.2 ex i c hc
      simpa using this
    · intro r g x e _ hw; rw [(hro r g e).1] at hw; cases hw
    · intro r r' g g' x x' e e' _ _ _ hor
      rw [(hro r g e).1, (hro r' g' e').1] at hor
      rcases hor with h | h <;> cases h
    · intro r g x e _ hw; rw [(hro r g e).1] at hw; cases hw
    · intro r g x _ ex hn _
      have h1 := lt_of_some ex
      have h2 := hlh 0
      simp [canOld, canSl] at hn
      omega
    · intro r g x s p e _ hit; rw [(hro r g e).2.1] at hit; cases hit
    · intro r r' g g' x x' e _ _ _ hi; rw [(hro r g e).2.1] at hi; cases hi
  have hR : All2 (AV.R ns bs) (canSl id cls).args vs := by
    have := slAll_args cls vs ns bs [] [] [] [] h
    simpa [canSl] using this
  refine (hC W ns bs vs hM (by simpa [canSl] using hl) hR hpre).mono fun e W' he => ?_
  obtain ⟨v, outs, nb, rfl, hP⟩ := he
  have hpo := hP.post
  rw [show (canSl id cls).id = id from rfl, hpost] at hpo
  match outs, hpo with
  | [r], hr' =>
    obtain ⟨m, hm, hv⟩ : ∃ n, (ns ++ [r])[(slKinds cls).length]? = some n ∧ v = .bool (n != 0) := hP.res
    have : m = r := by
      rw [← hl, List.getElem?_append_right (by omega)] at hm
      simpa using hm.symm
    subst this
    have hr2 : m ≠ 0 := hr'
    refine ⟨by rw [hv]; simp [hr2], hP.keep.below fun k i _ hS => ?_⟩
    obtain ⟨j, g, x, h1, _, h3, _⟩ := hS
    rw [(hro j g h1).1] at h3
    cases h3

/-- A call by a contract that writes nothing old and answers a bool. -/
theorem walkG {rels : Nat → RelSpec} {f : FuncId} {can : Can} {vs : List Value} {ns : List Int} {bs : Base} {W : World} (hC : CanOk Try.prog rels f can) (hpost : (rels can.id).post = postRow) (hres : can.res = .one (.s (.boolv can.kinds.length)))
    (hro : ∀ (r : Nat) (g : Reg), can.hp[r]? = some g → g.rw = false) (hM : Mem (canOld bs can.hp) ns bs can.hp W W) (hl : ns.length = can.kinds.length) (hR : All2 (AV.R ns bs) can.args vs) (hpre : (rels can.id).pre ns) :
    Calls Try.prog f vs.toArray W fun e W' => e = .returned (.bool true) ∧ Below W.heap.size W W' := by
  refine (hC W ns bs vs hM hl hR hpre).mono fun e W' he => ?_
  obtain ⟨v, outs, nb, rfl, hP⟩ := he
  have hpo := hP.post
  rw [hpost] at hpo
  match outs, hpo with
  | [r], hr' =>
    have hres' := hP.res
    rw [hres] at hres'
    obtain ⟨m, hm, hv⟩ : ∃ n, (ns ++ [r])[can.kinds.length]? = some n ∧ v = .bool (n != 0) := hres'
    have : m = r := by
      rw [← hl, List.getElem?_append_right (by omega)] at hm
      simpa using hm.symm
    subst this
    have hr2 : m ≠ 0 := hr'
    refine ⟨by rw [hv]; simp [hr2], hP.keep.below fun k i _ hS => ?_⟩
    obtain ⟨j, g, x, h1, _, h3, _⟩ := hS
    rw [hro j g h1] at h3
    cases h3

theorem cells5 : Try.prog.cellsOf 5 = 1 := by kernel_rfl
set_option maxRecDepth 100000 in
/-- A slice of bytes that came in: of any length; by its length. -/
theorem openSl {H : Type} {enc : TypeId × Value → H} {W : World} {base : Nat} {v : Value} {d : DataW H} {ps : List MemPlace} (hval : Value.okWide Try.prog W .any base 40 v) (h : DataW.Trod enc Try.prog W 0 (fun _ => true) true 40 v d ps) :
    ∃ n : Nat, SlV W none v [(n : Int)] [] ∧ (other n ∨ (∃ ns b, SlV W (some 1) v ns [b]) ∨ ∃ ns b, SlV W (some 57) v ns [b]) := by
  obtain ⟨a1, len, cap, rfl⟩ := okWide_slice Try.underlying40 hval
  obtain ⟨fuel, hf⟩ := h
  rcases open_ints Try.underlying40 Try.underlying5 cells5 hf with ⟨hcs, _⟩ | ⟨a, len', cap', zs, hcs, _, hl, hm, hz, _, hcell, hwz⟩
  · simp [Value.cells] at hcs
    obtain ⟨rfl, rfl, rfl⟩ := hcs
    exact ⟨0, ⟨0, none, 0, rfl, rfl, rfl, by simp only [Fits, kmin, kmax]; omega⟩, .inl ⟨by decide, by decide⟩⟩
  · simp [Value.cells] at hcs
    obtain ⟨rfl, rfl, rfl⟩ := hcs
    simp only [if_true] at hz
    have hfit : Fits .i64 (len : Int) := by
      have : maxLen ≤ 9223372036854775807 := by decide +kernel
      simp only [Fits, kmin, kmax]; omega
    refine ⟨len, ⟨len, some a, cap, rfl, rfl, rfl, hfit⟩, ?_⟩
    have key : ∀ m : Nat, len = m → 0 < m → ∃ ns b, SlV W (some m) (.slice (some a) len cap) ns [b] := fun m e h0 => by
      subst e
      obtain ⟨ab, ao, spot⟩ := a
      have hspot : spot = none := by simpa [Addr.add] using World.cell?_spot (hcell 0 (by omega))
      subst hspot
      refine ⟨zs.take len, (ab, ao), ab, ao, cap, rfl, hl, by simp; omega, fun x hx => ?_, rfl, fun i hi => ?_⟩
      · have := hwz x (List.mem_of_mem_take hx)
        simp [Lit.wf, IntKind.min, IntKind.max, IntKind.signed, IntKind.bits] at this
        exact ⟨by omega, by omega⟩
      · have := hcell i (by omega)
        rw [Addr.add_lit] at this
        rw [this]
        simp [List.getD, hi]
    by_cases h1 : len = 1
    · exact .inr (.inl (key 1 h1 (by decide)))
    · by_cases h57 : len = 57
      · exact .inr (.inr (key 57 h57 (by decide)))
      · exact .inl ⟨by omega, by omega⟩
end Go.Sx
