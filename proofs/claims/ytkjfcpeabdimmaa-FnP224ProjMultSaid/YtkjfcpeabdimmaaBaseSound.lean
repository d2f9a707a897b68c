/- The executor is right, part 2: steps, guards, regions. -/
import Derived.Test.YtkjfcpeabdimmaaBaseExec
import Derived.Laws.Externs
import Derived.Shelf.Spec.BitsCarry
set_option linter.unusedVariables false
set_option linter.unusedSimpArgs false
set_option linter.constructorNameAsVariable false
namespace Go.Sx
open Go

section
variable {P : Program} {rels : Nat → RelSpec} {Q0 : Env → AV → List Reg → Prop} {S0 : Old} {w0 : World} {ρb : Env} {βb : Base}

/-- The cells of a stretch. -/
def addrs (x : Nat × Nat) (o : Nat) (vs : List Value) : List (Addr × Value) := vs.zipIdx.map fun p => (⟨x.1, x.2 + o + p.2, none⟩, p.1)

theorem holds_addrs {x : Nat × Nat} {o : Nat} {vs : List Value} {w : World} : Holds (addrs x o vs) w ↔ ∀ (j : Nat) v, vs[j]? = some v → w.cell? ⟨x.1, x.2 + o + j, none⟩ = some v := by
  constructor
  · intro h j v e
    exact h (⟨x.1, x.2 + o + j, none⟩, v) (List.mem_map.2 ⟨(v, j), by rw [List.mem_zipIdx_iff_getElem?]; exact e, rfl⟩)
  · intro h p hp
    simp only [addrs, List.mem_map] at hp
    obtain ⟨⟨v, j⟩, hq, rfl⟩ := hp
    rw [List.mem_zipIdx_iff_getElem?] at hq
    exact h j v hq

/-- What a reader has read. -/
def Seen (P : Program) (ρ : Env) (β : Base) (ev : Operand → AV) (hp : List Reg) (op : Op) (S : List (Addr × Value)) : Prop :=
  match readsX P ev hp op with
  | some (r, o, cs) => ∃ x vs, β[r]? = some x ∧ All2 (Sc.R ρ β) cs vs ∧ S = addrs x o vs
  | none => S = []

theorem load_ok {ρ : Env} {β : Base} {ev : Operand → AV} {hp : List Reg} {w : World} {a : Act} {o : Oper} {t : TypeId} {x : Operand} {X : Exts} {r : RdRes} (ho : o.op = .load t x) (hev : ∀ x, (ev x).R ρ β (a.eval x)) (hm : Mem S0 ρ β hp w0 w)
    (h : rdX P X ev hp (.load t x) = some r) : ∃ av S v, r = .val av ∧ Holds S w ∧ Seen P ρ β ev hp o.op S ∧ (∀ w', Holds S w' → (execOp a.eval o).run P w' = .ok (.value v) w') ∧ av.R ρ β v := by
  simp only [rdX] at h
  split at h
  · rename_i d inf r o' hu hi ex
    obtain ⟨b, hb, hv⟩ := arg_of hev ex
    split at h
    · rename_i g hg
      split at h
      · rename_i hd
        split at h
        · rename_i hl
          obtain rfl := Option.some.inj h
          obtain ⟨vs, h1, h2, h3⟩ := hm.cells hg hb inf.size o' hl
          refine ⟨_, addrs b o' vs, .agg vs.toArray, rfl, holds_addrs.2 h3, ?_, fun w' hS => ?_, ⟨vs, rfl, h2⟩⟩
          · simp only [Seen, ho, readsX, hu, hi, ex, hg, hd, if_true]
            exact ⟨b, vs, hb, h2, rfl⟩
          · simp only [execOp, ho, hv]
            exact run_value (run_loadAt_agg hu hd hi h1 (holds_addrs.1 hS))
        · cases h
      · rename_i hd
        split at h
        · rename_i c hc
          obtain rfl := Option.some.inj h
          obtain ⟨v, hcell, hR⟩ := hm.cell r g b hg hb o' c hc
          have hlt := (List.getElem?_eq_some_iff.1 hc)
          refine ⟨_, addrs b o' [v], v, rfl, holds_addrs.2 (fun j u e => ?_), ?_, fun w' hS => ?_, hR⟩
          · cases j with
            | zero => simp at e; subst e; simpa using hcell
            | succ j => simp at e
          · simp only [Seen, ho, readsX, hu, hi, ex, hg]
            rw [if_neg hd]
            refine ⟨b, [v], hb, ?_, rfl⟩
            obtain ⟨h1, h2⟩ := hlt
            rw [List.drop_eq_getElem_cons h1, List.take_succ_cons, h2]
            exact ⟨hR, by simp [All2]⟩
          · simp only [execOp, ho, hv]
            exact run_value (run_loadAt_one hu (by simpa using hd) (by simpa using holds_addrs.1 hS 0 v rfl))
        · cases h
    · cases h
  · cases h

/-- One operation whose guard is decided: a reader, or anything else. -/
theorem stepX_sound {X : Exts} (hX : ExtOk P X) {call : CallT} (hcall : CallOk P rels Q0 S0 w0 call) {Q : Exit → Act → World → Prop} {ρ : Env} {β : Base} {st : St} {o : Oper} {k : St → Tree} {a : Act} {w : World} (hρ : Ext ρb ρ) (hβ : Ext βb β)
    (h : (stepX P X call st o k).vc rels Q0 ρ) (hr : Rel S0 ρ β w0 st a w) :
    (cls X o.op ≠ 2 ∧ ∃ S v, Holds S w ∧ Seen P ρ β (evX st.fr) st.hp o.op S ∧ (∀ w', Holds S w' → (execOp a.eval o).run P w' = .ok (.value v) w') ∧ Post rels Q0 S0 w0 ρ β k (a.put o.dst v) w) ∨
    (cls X o.op = 2 ∧ o.wp P a w (Post rels Q0 S0 w0 ρ β k) Q) := by
  unfold stepX at h
  split at h
  · rename_i hc
    exact .inr ⟨hc, bigX_sound hcall (Ext.refl _) (Ext.refl _) h hr⟩
  · rename_i hc
    refine .inl ⟨hc, ?_⟩
    split at h
    · rename_i i v v' hpk
      unfold pickX at hpk
      split at hpk
      · rename_i c x y hop
        split at hpk
        · rename_i j hcv
          simp only [Option.some.injEq, Prod.mk.injEq] at hpk
          obtain ⟨rfl, rfl, rfl⟩ := hpk
          have hR := evX_R hr.fr' c
          rw [hcv] at hR
          obtain ⟨n, hn, hv⟩ := hR
          obtain ⟨h1, h2⟩ := h
          rw [getD_of hn] at h1 h2
          have hseen : Seen P ρ β (evX st.fr) st.hp o.op [] := by simp [Seen, hop, readsX]
          by_cases h0 : n = 0
          · refine ⟨[], a.eval y, holds_nil w, hseen, fun w' _ => ?_, post_put (Ext.refl _) (Ext.refl _) (h2 h0) hr (evX_R hr.fr' y)⟩
            simp [execOp, hop, hv, h0, asBool]
          · refine ⟨[], a.eval x, holds_nil w, hseen, fun w' _ => ?_, post_put (Ext.refl _) (Ext.refl _) (h1 h0) hr (evX_R hr.fr' x)⟩
            simp [execOp, hop, hv, h0, asBool]
        · cases hpk
      · cases hpk
    · split at h
      · rename_i av hrd
        rw [normK_spec] at h
        by_cases hl : isLoad o.op = true
        · obtain ⟨t, x, ho⟩ : ∃ t x, o.op = .load t x := by
            cases hop : o.op <;> simp [hop, isLoad] at hl
            exact ⟨_, _, rfl⟩
          rw [ho] at hrd
          obtain ⟨av', S, v, e, h1, h2, h3, h4⟩ := load_ok ho (evX_R hr.fr') hr.mem hrd
          cases e
          exact ⟨S, v, h1, h2, h3, post_put (Ext.refl _) (Ext.refl _) h hr h4⟩
        · obtain ⟨S, v, h1, h2, h3, h4⟩ := rdX_sound (rels := rels) hX (evX_R hr.fr') hr.mem hrd
          have hs : Seen P ρ β (evX st.fr) st.hp o.op S := by
            have := h2 (by simpa using hl)
            cases hop : o.op <;> simp [hop, isLoad] at hl <;> simpa [Seen, readsX] using this
          exact ⟨S, v, h1, hs, h3, post_put (Ext.refl _) (Ext.refl _) h hr h4⟩
      · rename_i I mk hrd
        simp only [forceK_spec, Tree.vc] at h
        by_cases hl : isLoad o.op = true
        · obtain ⟨t, x, ho⟩ : ∃ t x, o.op = .load t x := by
            cases hop : o.op <;> simp [hop, isLoad] at hl
            exact ⟨_, _, rfl⟩
          rw [ho] at hrd
          obtain ⟨av', S, v, e, _⟩ := load_ok ho (evX_R hr.fr') hr.mem hrd
          cases e
        · obtain ⟨outs, S, v, hK, hlen, h1, h2, h3, h4⟩ := rdX_sound (rels := rels) hX (evX_R hr.fr') hr.mem hrd _ h
          rw [hr.nv] at hK
          have hx : Ext ρ (ρ ++ outs) := Ext.app _ _
          have hs : Seen P ρ β (evX st.fr) st.hp o.op S := by
            have := h2 (by simpa using hl)
            cases hop : o.op <;> simp [hop, isLoad] at hl <;> simpa [Seen, readsX] using this
          exact ⟨S, v, h1, hs, h3, post_put hx (Ext.refl _) hK (Rel.mk' (hr.fr'.mono hx (Ext.refl _)) (hr.mem.mono hx) (by simp [hlen])) h4⟩
      · exact h.elim

theorem yielded_none {ops : Array Oper} {a : Act} {o : Oper} (h : o.guard = none) : Region.wanted o (yielded ops a.tmps) = true := by
  simp [Region.wanted, h]

/-- An operation with its guard. -/
theorem guardX_sound {X : Exts} (hX : ExtOk P X) {call : CallT} (hcall : CallOk P rels Q0 S0 w0 call) {Q : Exit → Act → World → Prop} {ops : Array Oper} {i : Nat} {ρ : Env} {β : Base} {st : St} {o : Oper} {k k' : St → Tree} {a : Act} {w : World} {why : Nat}
    (hi : ops[i]? = some o) (h : (guardX ops st o (stepX P X call st o k) (put (.bad why) st o.dst (.tup []) k')).vc rels Q0 ρ) (hr : Rel S0 ρ β w0 st a w) :
    (cls X o.op ≠ 2 ∧ ∃ S v, Reads P ops o S v a ∧ Holds S w ∧ ((Seen P ρ β (evX st.fr) st.hp o.op S ∧ Post rels Q0 S0 w0 ρ β k (a.put o.dst v) w) ∨ (S = [] ∧ Post rels Q0 S0 w0 ρ β k' (a.put o.dst v) w))) ∨
    (cls X o.op = 2 ∧ wpOp P ops Q i (fun a' w' => Post rels Q0 S0 w0 ρ β k a' w' ∨ Post rels Q0 S0 w0 ρ β k' a' w') a w) := by
  have yes : Region.wanted o (yielded ops a.tmps) = true → (stepX P X call st o k).vc rels Q0 ρ →
      (cls X o.op ≠ 2 ∧ ∃ S v, Reads P ops o S v a ∧ Holds S w ∧ ((Seen P ρ β (evX st.fr) st.hp o.op S ∧ Post rels Q0 S0 w0 ρ β k (a.put o.dst v) w) ∨ (S = [] ∧ Post rels Q0 S0 w0 ρ β k' (a.put o.dst v) w))) ∨
      (cls X o.op = 2 ∧ wpOp P ops Q i (fun a' w' => Post rels Q0 S0 w0 ρ β k a' w' ∨ Post rels Q0 S0 w0 ρ β k' a' w') a w) := fun hw h => by
    rcases stepX_sound (Q := Q) hX hcall (Ext.refl ρ) (Ext.refl β) h hr with ⟨hc, S, v, h1, h2, h3, h4⟩ | ⟨hc, h1⟩
    · exact .inl ⟨hc, S, v, .inl ⟨hw, h3⟩, h1, .inl ⟨h2, h4⟩⟩
    · refine .inr ⟨hc, ?_⟩
      refine wpOp_mono (K := Post rels Q0 S0 w0 ρ β k) (fun a' w' h => .inl h) ?_
      unfold wpOp
      simp only [hi, hw, if_true]
      exact .inl h1
  have no : Region.wanted o (yielded ops a.tmps) = false → (put (.bad why) st o.dst (.tup []) k').vc rels Q0 ρ →
      (cls X o.op ≠ 2 ∧ ∃ S v, Reads P ops o S v a ∧ Holds S w ∧ ((Seen P ρ β (evX st.fr) st.hp o.op S ∧ Post rels Q0 S0 w0 ρ β k (a.put o.dst v) w) ∨ (S = [] ∧ Post rels Q0 S0 w0 ρ β k' (a.put o.dst v) w))) ∨
      (cls X o.op = 2 ∧ wpOp P ops Q i (fun a' w' => Post rels Q0 S0 w0 ρ β k a' w' ∨ Post rels Q0 S0 w0 ρ β k' a' w') a w) := fun hw h => by
    have hp := post_put (u := undef) (Ext.refl ρ) (Ext.refl β) h hr ⟨[], rfl, trivial⟩
    by_cases hc : cls X o.op = 2
    · exact .inr ⟨hc, by unfold wpOp; simp only [hi, hw, Bool.false_eq_true, if_false]; exact .inr hp⟩
    · exact .inl ⟨hc, [], undef, .inr ⟨hw, rfl⟩, holds_nil w, .inr ⟨rfl, hp⟩⟩
  unfold guardX at h
  split at h
  · rename_i hg
    exact yes (yielded_none hg) h
  · rename_i j want hg
    split at h
    · rename_i d hd
      have hy : ∀ b : Bool, a.tmps.getD d undef = .bool b → Region.wanted o (yielded ops a.tmps) = (b == want) := fun b hb => by
        have : a.tmps[d]? = some (.bool b) := by
          rw [Array.getD_eq_getD_getElem?] at hb
          cases e : a.tmps[d]? with
          | none => rw [e] at hb; cases hb
          | some v => rw [e] at hb; exact congrArg some hb
        simp [Region.wanted, hg, yielded, hd, this]
      split at h
      · rename_i b hfr
        have hb : a.tmps.getD d undef = .bool b := hr.fr _ _ hfr
        split at h
        · rename_i hbw
          exact yes (by rw [hy b hb, hbw]; simp) h
        · rename_i hbw
          exact no (by rw [hy b hb]; simpa using hbw) h
      · rename_i v hfr
        obtain ⟨n, hn, hb⟩ := hr.fr _ _ hfr
        have hw := hy _ hb
        obtain ⟨h1, h2⟩ := h
        rw [getD_of hn] at h1 h2
        by_cases h0 : n = 0
        · have h2 := h2 h0
          cases want with
          | true => exact no (by rw [hw]; simp [h0]) h2
          | false => exact yes (by rw [hw]; simp [h0]) h2
        · have h1 := h1 h0
          cases want with
          | true => exact yes (by rw [hw]; simp [h0]) h1
          | false => exact no (by rw [hw]; simp [h0]) h1
      · rename_i hfr
        obtain ⟨us, hv, hus⟩ := hr.fr _ _ hfr
        have hb : a.tmps.getD d undef = .tuple #[] := by
          cases us with
          | nil => exact hv
          | cons _ _ => exact hus.elim
        refine no ?_ h
        have hy0 : yielded ops a.tmps j = none := by
          rw [Array.getD_eq_getD_getElem?] at hb
          cases e : a.tmps[d]? with
          | none => simp [yielded, hd, e]
          | some v =>
            rw [e] at hb
            have : v = .tuple #[] := hb
            subst this
            simp [yielded, hd, e]
        simp [Region.wanted, hg, hy0]
      · exact h.elim
    · exact h.elim

theorem Rel.drawn {ρ : Env} {β : Base} {st : St} {a : Act} {w : World} (h : Rel S0 ρ β w0 st a w) (n : Nat) : Rel S0 ρ β w0 st a { w with drawn := n } :=
  Rel.mk' h.fr' (h.mem.drawn n) h.nv

theorem Sc.same_eq {ρ : Env} {β : Base} : ∀ (c d : Sc) (u v : Value), Sc.same c d = true → c.R ρ β u → d.R ρ β v → u = v
  | .bool _, .bool _, _, _, h, h1, h2 => by simp [Sc.same] at h; subst h; rw [show _ = _ from h1, show _ = _ from h2]
  | .boolv _, .boolv _, _, _, h, ⟨n, k1, k2⟩, ⟨m, l1, l2⟩ => by simp [Sc.same] at h; subst h; rw [k1] at l1; cases l1; rw [k2, l2]
  | .int _ _, .int _ _, _, _, h, h1, h2 => by simp [Sc.same] at h; obtain ⟨rfl, rfl⟩ := h; rw [h1.1, h2.1]
  | .var _ _, .var _ _, _, _, h, ⟨n, k1, k2, _⟩, ⟨m, l1, l2, _⟩ => by simp [Sc.same] at h; obtain ⟨rfl, rfl⟩ := h; rw [k1] at l1; cases l1; rw [k2, l2]
  | .ptr _ _, .ptr _ _, _, _, h, ⟨n, k1, k2⟩, ⟨m, l1, l2⟩ => by simp [Sc.same] at h; obtain ⟨rfl, rfl⟩ := h; rw [k1] at l1; cases l1; rw [k2, l2]
  | .nilp, .nilp, _, _, _, h1, h2 => by rw [show _ = _ from h1, show _ = _ from h2]
  | .slice _ _ _ _, .slice _ _ _ _, _, _, h, ⟨n, k1, k2⟩, ⟨m, l1, l2⟩ => by simp [Sc.same] at h; obtain ⟨⟨⟨rfl, rfl⟩, rfl⟩, rfl⟩ := h; rw [k1] at l1; cases l1; rw [k2, l2]
  | .sliceC _ _ _ _, .sliceC _ _ _ _, _, _, h, ⟨b, n, k1, k2, k3, _⟩, ⟨c, m, l1, l2, l3, _⟩ => by
    simp [Sc.same] at h; obtain ⟨⟨⟨rfl, rfl⟩, rfl⟩, rfl⟩ := h
    rw [k1] at l1; cases l1
    rw [k2] at l2
    have e : n = m := by have := Option.some.inj l2; omega
    rw [k3, l3, e]
  | .nils, .nils, _, _, _, h1, h2 => by rw [show _ = _ from h1, show _ = _ from h2]
  | .func _, .func _, _, _, h, h1, h2 => by simp [Sc.same] at h; subst h; rw [show _ = _ from h1, show _ = _ from h2]
  | .nilIface, .nilIface, _, _, _, h1, h2 => by rw [show _ = _ from h1, show _ = _ from h2]
  | .iface _ x, .iface _ y, _, _, h, ⟨n, k1, k2⟩, ⟨m, l1, l2⟩ => by
    simp only [Sc.same, Bool.and_eq_true, beq_iff_eq] at h
    obtain ⟨rfl, h⟩ := h
    rw [k1, l1, Sc.same_eq x y n m h k2 l2]

theorem sameL_eq {ρ : Env} {β : Base} : ∀ (c d : List Sc) (u v : List Value), sameL c d = true → All2 (Sc.R ρ β) c u → All2 (Sc.R ρ β) d v → u = v
  | [], [], [], [], _, _, _ => rfl
  | a :: l, b :: m, x :: u, y :: v, h, h1, h2 => by
    simp only [sameL, Bool.and_eq_true] at h
    rw [Sc.same_eq a b x y h.1 h1.1 h2.1, sameL_eq l m u v h.2 h1.2 h2.2]

/-- The facts are those of what has been read. -/
def Known (ρ : Env) (β : Base) (ps : List Pend) (F : Facts) : Prop :=
  ∀ f ∈ F, (∃ p ∈ ps, f.1 = p.D ∧ ∃ x vs, β[p.r]? = some x ∧ All2 (Sc.R ρ β) p.cs vs ∧ f.2 = Holds (addrs x p.o vs)) ∨ (∀ w, f.2 w)

theorem Known.mono {ρ ρ' : Env} {β β' : Base} {ps : List Pend} {F : Facts} (h : Known ρ β ps F) (hρ : Ext ρ ρ') (hβ : Ext β β') : Known ρ' β' ps F := fun f hf => by
  rcases h f hf with ⟨p, hp, h1, x, vs, h2, h3, h4⟩ | h
  · exact .inl ⟨p, hp, h1, x, vs, hβ.get h2, h3.mono fun c v => Sc.R_mono hρ hβ c v, h4⟩
  · exact .inr h

theorem Known.drop {ρ : Env} {β : Base} {ps : List Pend} {F : Facts} (h : Known ρ β ps F) (i : Nat) : Known ρ β (dropP ps i) (dropF F i) := fun f hf => by
  obtain ⟨hf, hi⟩ := mem_dropF.1 hf
  rcases h f hf with ⟨p, hp, h1, h2⟩ | h
  · exact .inl ⟨p, by simp [dropP, hp, ← h1, hi], h1, h2⟩
  · exact .inr h

theorem Known.ok {ρ : Env} {β : Base} {ps : List Pend} {F : Facts} {hp : List Reg} {w : World} (h : Known ρ β ps F) (hk : pendOk hp ps = true) (hm : Mem S0 ρ β hp w0 w) : holdsF F w := fun f hf => by
  rcases h f hf with ⟨p, hp', h1, x, vs, h2, h3, h4⟩ | h
  · have := List.all_eq_true.1 hk p hp'
    split at this
    · rename_i g hg
      simp only [Bool.and_eq_true, decide_eq_true_eq] at this
      obtain ⟨hl, hsame⟩ := this
      obtain ⟨us, k1, k2, k3⟩ := hm.cells hg h2 p.cs.length p.o hl
      obtain rfl := sameL_eq _ _ vs us hsame h3 k2
      rw [h4]
      exact holds_addrs.2 k3
    · cases this
  · exact h w

theorem Known.cons {ρ : Env} {β : Base} {ps : List Pend} {F : Facts} {S : List (Addr × Value)} {ops : Array Oper} {i : Nat} {rest : List Nat} {st : St} {o : Oper} (h : Known ρ β ps F) (hs : Seen P ρ β (evX st.fr) st.hp o.op S) :
    Known ρ β (pendX P ops i rest st o ps) ((desc ops rest [i], Holds S) :: F) := fun f hf => by
  unfold pendX
  unfold Seen at hs
  rcases List.mem_cons.1 hf with rfl | hf
  · split
    · rename_i r q cs hrd
      rw [hrd] at hs
      obtain ⟨x, vs, h1, h2, h3⟩ := hs
      exact .inl ⟨_, List.mem_cons_self, rfl, x, vs, h1, h2, by rw [h3]⟩
    · rename_i hrd
      rw [hrd] at hs
      exact .inr fun w => by rw [show S = [] from hs]; exact holds_nil w
  · split
    · rcases h f hf with ⟨p, hp, h⟩ | h
      · exact .inl ⟨p, List.mem_cons_of_mem _ hp, h⟩
      · exact .inr h
    · exact h f hf

theorem Known.nil {ρ : Env} {β : Base} {ps : List Pend} {F : Facts} {D : List Nat} (h : Known ρ β ps F) : Known ρ β ps ((D, Holds []) :: F) := fun f hf => by
  rcases List.mem_cons.1 hf with rfl | hf
  · exact .inr fun w => holds_nil w
  · exact h f hf

theorem Post.weaken {ρ ρ' : Env} {β β' : Base} {k : St → Tree} {a : Act} {w : World} (h : Post rels Q0 S0 w0 ρ' β' k a w) (hρ : Ext ρ ρ') (hβ : Ext β β') : Post rels Q0 S0 w0 ρ β k a w := by
  obtain ⟨r, b, st, h1, h2, h3⟩ := h
  exact ⟨r, b, st, hρ.trans h1, hβ.trans h2, h3⟩

theorem altX_vc {X : Exts} {call : CallT} {ops : Array Oper} {go : List Nat → List Pend → St → (St → Tree) → Tree} {l : List Nat} {ps : List Pend} {st : St} {k : St → Tree} {ρ : Env} {t : Tree} : ∀ (fs : List Nat), (altX P X call ops go l ps st k fs t).vc rels Q0 ρ →
    t.vc rels Q0 ρ ∧ ∀ f ∈ fs, ∃ o, ops[f]? = some o ∧ cls X o.op = 2 ∧ (runX P X call ops go f o (l.filter fun j => j != f) ps st k).vc rels Q0 ρ
  | [], h => ⟨h, fun f hf => by cases hf⟩
  | f :: fs, h => by
    simp only [altX] at h
    split at h
    · rename_i o ho
      split at h
      · rename_i hc
        obtain ⟨h1, h2⟩ := h
        obtain ⟨k1, k2⟩ := altX_vc fs h2
        refine ⟨k1, fun g hg => ?_⟩
        rcases List.mem_cons.1 hg with rfl | hg
        · exact ⟨o, ho, hc, h1⟩
        · exact k2 g hg
      · exact h.elim
    · exact h.elim

theorem regX_draw {X : Exts} (hX : ExtOk P X) {call : CallT} (hcall : CallOk P rels Q0 S0 w0 call) {Q : Exit → Act → World → Prop} {ops : Array Oper} {k : St → Tree} (hN : ∀ a w, Post rels Q0 S0 w0 ρb βb k a w → Q .normal a w) :
    ∀ (n : Nat) (l : List Nat) (ps : List Pend) (F : Facts) (ρ : Env) (β : Base) (st : St) (a : Act) (w : World), Ext ρb ρ → Ext βb β → Known ρ β ps F → (regX P X call ops true n l ps st k).vc rels Q0 ρ → Rel S0 ρ β w0 st a w → ordWp P ops Q n l F a w
  | 0, _, _, _, _, _, _, _, _, _, _, _, h, _ => h.elim
  | n + 1, [], ps, F, ρ, β, st, a, w, hρ, hβ, hF, h, hr => hN a w ⟨ρ, β, st, hρ, hβ, h, hr⟩
  | n + 1, i :: rest, ps, F, ρ, β, st, a, w, hρ, hβ, hF, h, hr => by
    have run : ∀ (i : Nat) (o : Oper) (l : List Nat), ops[i]? = some o → cls X o.op = 2 → (runX P X call ops (regX P X call ops true n) i o l ps st k).vc rels Q0 ρ →
        wpOp P ops Q i (fun a' w' => holdsF (dropF F i) w' ∧ ordWp P ops Q n l (dropF F i) a' w') a w := fun i o l ho h2 h => by
      rcases guardX_sound (Q := Q) hX hcall ho h hr with ⟨hn, _⟩ | ⟨_, hp⟩
      · exact absurd h2 hn
      · refine wpOp_mono (fun a' w' h' => ?_) hp
        have go : ∀ why, Post rels Q0 S0 w0 ρ β (fun st => if pendOk st.hp (dropP ps i) = true then regX P X call ops true n l (dropP ps i) st k else .bad why) a' w' → holdsF (dropF F i) w' ∧ ordWp P ops Q n l (dropF F i) a' w' := fun why h' => by
          obtain ⟨ρ', β', st', hρ', hβ', h', hr'⟩ := h'
          simp only at h'
          split at h'
          · rename_i hk
            have hF' := (hF.drop i).mono hρ' hβ'
            exact ⟨hF'.ok hk hr'.mem, regX_draw hX hcall hN n l _ _ ρ' β' st' a' w' (hρ.trans hρ') (hβ.trans hβ') hF' h' hr'⟩
          · exact h'.elim
        rcases h' with h' | h'
        · exact go _ h'
        · exact go _ h'
    simp only [regX, Bool.not_true, Bool.false_eq_true, if_false] at h
    split at h
    · exact h.elim
    · rename_i o ho
      split at h
      · rename_i hc
        refine ⟨o, ho, ?_⟩
        split at h
        · rename_i h2
          obtain ⟨h3, h4⟩ := altX_vc _ h
          refine .inr ⟨by simpa [checkX, h2] using hc, run i o rest ho h2 h3, fun f hf => ?_⟩
          obtain ⟨of, hof, hcf, hvf⟩ := h4 f hf
          exact run f of _ hof hcf hvf
        · rename_i h2
          rcases guardX_sound (Q := Q) hX hcall ho h hr with ⟨_, S, v, hy, hH, hp⟩ | ⟨hn, _⟩
          · refine .inl ⟨S, v, by simpa [checkX, h2] using hc, hy, hH, ?_⟩
            rcases hp with ⟨hs, ρ', β', st', hρ', hβ', h', hr'⟩ | ⟨rfl, ρ', β', st', hρ', hβ', h', hr'⟩
            · exact regX_draw hX hcall hN n rest _ _ ρ' β' st' _ w (hρ.trans hρ') (hβ.trans hβ') ((hF.cons hs).mono hρ' hβ') h' hr'
            · exact regX_draw hX hcall hN n rest _ _ ρ' β' st' _ w (hρ.trans hρ') (hβ.trans hβ') (hF.nil.mono hρ' hβ') h' hr'
          · exact absurd hn h2
      · exact h.elim

theorem regX_plain {X : Exts} (hX : ExtOk P X) {call : CallT} (hcall : CallOk P rels Q0 S0 w0 call) {Q : Exit → Act → World → Prop} {ops : Array Oper} {k : St → Tree} (hN : ∀ a w, Post rels Q0 S0 w0 ρb βb k a w → Q .normal a w) :
    ∀ (n : Nat) (l : List Nat) (a : Act) (w : World), Post rels Q0 S0 w0 ρb βb (fun st => regX P X call ops false n l [] st k) a w → wpOps P ops Q l a w
  | 0, _, a, w, ⟨_, _, _, _, _, h, _⟩ => h.elim
  | n + 1, [], a, w, h => hN a w h
  | n + 1, i :: rest, a, w, ⟨ρ, β, st, hρ, hβ, h, hr⟩ => by
    rw [wpOps_cons]
    simp only [regX, Bool.not_false, if_true] at h
    split at h
    · exact h.elim
    · rename_i o ho
      rcases guardX_sound (Q := Q) hX hcall ho h hr with ⟨h2, S, v, hy, hH, hp⟩ | ⟨h2, hp⟩
      · refine hy.wpOp ho hH (regX_plain hX hcall hN n rest _ _ ?_)
        rcases hp with ⟨_, hp⟩ | ⟨_, hp⟩ <;> exact hp.weaken hρ hβ
      · refine wpOp_mono (fun a' w' h' => regX_plain hX hcall hN n rest a' w' ?_) hp
        rcases h' with hp | hp <;> exact hp.weaken hρ hβ

theorem regionX_sound {X : Exts} (hX : ExtOk P X) (hm : P.follows .mixedOrders = true) {call : CallT} (hcall : CallOk P rels Q0 S0 w0 call) {Q : Exit → Act → World → Prop} {id : Nat} {ops : Array Oper} {draw : Bool} {k : St → Tree} {a : Act} {w : World}
    (hN : ∀ a w, Post rels Q0 S0 w0 ρb βb k a w → Q .normal a w) (hP : ∀ c a w, ¬ Q (.panic c) a w) (h : Post rels Q0 S0 w0 ρb βb (fun st => regionX P X call ops draw st k) a w) : (Code.region id ops draw).wp P Q a w := by
  obtain ⟨ρ, β, st, hρ, hβ, h, hr⟩ := h
  cases draw with
  | true =>
    simp only [regionX, if_true] at h
    split at h
    · rename_i hc
      simp only [Bool.and_eq_true, beq_iff_eq, List.all_eq_true, List.mem_range, List.contains_iff_mem] at hc
      obtain ⟨⟨⟨hE, hsel⟩, hlen⟩, hall⟩ := hc
      refine wp_region_any hm ?_
      have ho := regX_draw hX hcall hN _ _ [] [] ρ β st a { w with drawn := w.drawn + 1 } hρ hβ (fun f hf => by cases hf) h (hr.drawn _)
      refine wpAny_of_F _ (F := []) ?_
      refine ordWp_any (fun j o cs b hj heq => ?_) hE hP _ _ _ _ _ _ _ (by omega) ⟨by simp, fun j hj => ?_⟩ (fun f hf => by cases hf) ho
      · have := Array.all_eq_true_iff_forall_mem.1 hsel o (Array.mem_of_getElem? hj)
        simp [heq, isSelect] at this
      · simp [hall j hj, hj]
    · exact h.elim
  | false =>
    simp only [regionX, Bool.false_eq_true, if_false] at h
    exact wp_region (regX_plain hX hcall hN _ _ a w ⟨ρ, β, st, hρ, hβ, h, hr⟩)
end
end Go.Sx

/- The executor is right, part 3: code, calls, the theorem. -/
namespace Go.Sx
open Go

theorem wp_loop_n {P : Program} {Q : Exit → Act → World → Prop} {c : Code} (L : Nat → Act → World → Prop) (h0 : ∀ a w, ¬ L 0 a w)
    (h : ∀ n a w, L (n + 1) a w → c.wp P (Exit.then (L n) Q) a w) : ∀ n a w, L n a w → (Code.loop c).wp P Q a w := by
  intro n a w hL b k cs
  have key : ∀ n a w, L n a w → ∃ e a' w', Q e a' w' ∧ Arrives P (lone (b.at a (.code c :: .inLoop c :: k)) cs w) b k cs e a' w' := by
    intro n
    induction n with
    | zero => intro a w h; exact (h0 a w h).elim
    | succ n ih =>
      intro a w hL
      obtain ⟨e, a₁, w₁, hq, harr⟩ := h n a w hL b (.inLoop c :: k) cs
      cases e with
      | normal =>
        obtain ⟨e₂, a₂, w₂, hq₂, harr₂⟩ := ih a₁ w₁ hq
        exact ⟨e₂, a₂, w₂, hq₂, .of_steps (Steps.trans harr (.one step_inLoop)) harr₂⟩
      | exit id => exact ⟨_, a₁, w₁, hq, .pass (x := .inLoop c) rfl (fun _ _ => .inl (by simp)) harr⟩
      | goto l => exact ⟨_, a₁, w₁, hq, .pass (x := .inLoop c) rfl (fun _ _ => .inl (by simp)) harr⟩
      | ret => exact ⟨_, a₁, w₁, hq, .pass (x := .inLoop c) rfl (fun _ _ => .inl (by simp)) harr⟩
      | panic ch => exact ⟨_, a₁, w₁, hq, .pass (x := .inLoop c) rfl (fun _ _ => .inl (by simp)) harr⟩
      | outgrown => exact ⟨_, a₁, w₁, hq, .pass (x := .inLoop c) rfl (fun _ _ => .inl (by simp)) harr⟩
  obtain ⟨e, a', w', hq, harr⟩ := key n a w hL
  exact ⟨e, a', w', hq, .of_steps (.one step_loop) harr⟩

section
variable {P : Program} {rels : Nat → RelSpec} {Q0 : Env → AV → List Reg → Prop} {S0 : Old} {w0 : World} {ρb : Env} {βb : Base}

structure KOk (rels : Nat → RelSpec) (Q0 : Env → AV → List Reg → Prop) (S0 : Old) (w0 : World) (ρb : Env) (βb : Base) (K : Kont) (Q : Exit → Act → World → Prop) : Prop where
  nrm : ∀ a w, Post rels Q0 S0 w0 ρb βb K.nrm a w → Q .normal a w
  ret : ∀ a w, Post rels Q0 S0 w0 ρb βb K.ret a w → Q .ret a w
  ext : ∀ i a w, Post rels Q0 S0 w0 ρb βb (K.ext i) a w → Q (.exit i) a w
  pan : ∀ c a w, ¬ Q (.panic c) a w

theorem codeX_sound {X : Exts} (hX : ExtOk P X) (hm : P.follows .mixedOrders = true) {call : CallT} (hcall : CallOk P rels Q0 S0 w0 call) :
    ∀ (n : Nat) (c : Code) (K : Kont) (Q : Exit → Act → World → Prop), KOk rels Q0 S0 w0 ρb βb K Q → ∀ a w, Post rels Q0 S0 w0 ρb βb (fun st => codeX P X call n c st K) a w → c.wp P Q a w := by
  intro n
  induction n using Nat.strongRecOn with
  | _ n ih =>
    intro c K Q hK a w hp
    cases n with
    | zero => obtain ⟨ρ, β, st, _, _, h, _⟩ := hp; exact h.elim
    | succ n =>
      cases c with
      | skip => exact wp_skip (hK.nrm a w hp)
      | region id ops draw => exact regionX_sound hX hm hcall hK.nrm hK.pan hp
      | seq x y =>
        refine wp_seq (ih n (by omega) x { K with nrm := fun st => codeX P X call n y st K } (Exit.then (y.wp P Q) Q) ⟨?_, hK.ret, hK.ext, hK.pan⟩ a w hp)
        exact fun a w h => ih n (by omega) y K Q hK a w h
      | cond x y z =>
        obtain ⟨ρ, β, st, hρ, hβ, h, hr⟩ := hp
        simp only [codeX] at h
        split at h
        · rename_i t hx
          have hv := evX_R hr.fr' x
          rw [hx] at hv
          cases t with
          | true => exact wp_cond_true hv (ih n (by omega) y K Q hK a w ⟨ρ, β, st, hρ, hβ, h, hr⟩)
          | false => exact wp_cond_false hv (ih n (by omega) z K Q hK a w ⟨ρ, β, st, hρ, hβ, h, hr⟩)
        · rename_i i hx
          have hv := evX_R hr.fr' x
          rw [hx] at hv
          obtain ⟨m, hm', hv⟩ := hv
          obtain ⟨h1, h2⟩ := h
          rw [getD_of hm'] at h1 h2
          by_cases h0 : m = 0
          · exact wp_cond_false (by rw [hv]; simp [h0]) (ih n (by omega) z K Q hK a w ⟨ρ, β, st, hρ, hβ, h2 h0, hr⟩)
          · exact wp_cond_true (by rw [hv]; simp [h0]) (ih n (by omega) y K Q hK a w ⟨ρ, β, st, hρ, hβ, h1 h0, hr⟩)
        · exact h.elim
      | block id b =>
        refine wp_block (ih n (by omega) b { K with ext := fun i st => if i = id then K.nrm st else K.ext i st } (Exit.inBlock id Q) ⟨hK.nrm, hK.ret, fun i a w h => ?_, hK.pan⟩ a w hp)
        show (if i = id then Q .normal a w else Q (.exit i) a w)
        by_cases hi : i = id
        · rw [if_pos hi]
          refine hK.nrm a w ?_
          simpa [hi] using h
        · rw [if_neg hi]
          refine hK.ext i a w ?_
          simpa [hi] using h
      | loop b =>
        refine wp_loop_n (fun m a w => m ≤ n + 1 ∧ Post rels Q0 S0 w0 ρb βb (fun st => codeX P X call m (.loop b) st K) a w) (fun a w h => ?_) (fun m a w h => ?_) (n + 1) a w ⟨Nat.le_refl _, hp⟩
        · obtain ⟨_, ρ, β, st, _, _, h, _⟩ := h; exact h.elim
        · obtain ⟨hmn, h⟩ := h
          refine ih m (by omega) b { K with nrm := fun st => codeX P X call m (.loop b) st K } (Exit.then (fun a w => m ≤ n + 1 ∧ Post rels Q0 S0 w0 ρb βb (fun st => codeX P X call m (.loop b) st K) a w) Q) ⟨fun a w h => ⟨by omega, h⟩, hK.ret, hK.ext, hK.pan⟩ a w h
      | exit i => exact wp_exit (hK.ext i a w hp)
      | ret => exact wp_ret (hK.ret a w hp)
      | _ => obtain ⟨ρ, β, st, _, _, h, _⟩ := hp; exact h.elim

/-- A contract of a function, or a question that has an answer. -/
def ConOk (P : Program) (rels : Nat → RelSpec) (f : FuncId) (con : Con) : Prop :=
  (con.ask = true → ∀ i, ∃ o : Int, (rels con.id).post i [o]) ∧ (con.ask = false →
  ∀ (S0 : Old) (w0 : World) ρ β hp w avs (vals : List Value) xs hp' av, Mem S0 ρ β hp w0 w → All2 (AV.R ρ β) avs vals → con.app avs hp ρ.length = some (xs, hp', av) → (rels con.id).pre (xs.map (Src.ev ρ)) →
    Calls P f vals.toArray w fun e w' => ∃ v outs β', e = .returned v ∧ outs.length = con.n ∧ (rels con.id).post (xs.map (Src.ev ρ)) outs ∧ Ext β β' ∧ av.R (ρ ++ outs) β' v ∧ Mem S0 (ρ ++ outs) β' hp' w0 w')

theorem entryK_spec {ρ : Env} {β : Base} {nt : Nat} : ∀ (args : List AV) (i : Nat) (t : Tr AV), ∃ t', (∀ {β : Type} (k : Tr AV → β), entryK args i t k = k t') ∧ ∀ j, t'.get j = if i ≤ j ∧ j < i + args.length then args[j - i]? else t.get j
  | [], i, t => ⟨t, fun _ => rfl, fun j => by simp; omega⟩
  | a :: l, i, t => by
    obtain ⟨t1, h1, h2⟩ := Tr.setK_spec (i + 1) t i a (by omega)
    obtain ⟨t2, k1, k2⟩ := entryK_spec (ρ := ρ) (β := β) (nt := nt) l (i + 1) t1
    refine ⟨t2, fun k => by simp [entryK, h1, k1], fun j => ?_⟩
    rw [k2, h2]
    by_cases hj : j = i
    · subst hj; simp; omega
    · by_cases hj2 : i + 1 ≤ j ∧ j < i + 1 + l.length
      · rw [if_pos hj2, if_pos (by simp; omega)]
        rw [show j - i = (j - (i + 1)) + 1 by omega, List.getElem?_cons_succ]
      · rw [if_neg hj2, if_neg hj, if_neg (by simp; omega)]

theorem load_addr {t : TypeId} {v u : Value} {w : World} (h : (do pure (Next.value (← (do Go.loadVar t (← Instr.sureAddr v) : Sem Value))) : Sem Next).run P w = .ok (.value u) w) : (do Go.loadVar t (← asAddr v) : Sem Value).run P w = .ok u w := by
  cases v with
  | pointer p =>
    cases p with
    | some ad =>
      simp only [Instr.sureAddr, asAddr, Sem.run_bind, Sem.run_pure, Result.andThen_ok] at h ⊢
      cases hr : (Go.loadVar t ad).run P w with
      | ok x w' =>
        rw [hr] at h
        simp only [Result.andThen_ok, Result.ok.injEq, Next.value.injEq] at h
        obtain ⟨rfl, rfl⟩ := h
        rfl
      | halt x w' => rw [hr] at h; cases h
    | none => cases h
  | _ => cases h

theorem resX_sound {ρ : Env} {β : Base} {nt : Nat} {fr : Tr AV} {hp : List Reg} {a : Act} (hf : FrR ρ β fr nt a) {w : World} (hm : Mem S0 ρ β hp w0 w) : ∀ (l : List ResultVar) (rs : List A1), resX P fr hp l = some rs →
    ∃ us : List Value, (l.mapM fun r => (match r with
      | .tmp t => pure (a.tmps.getD t undef)
      | .cell x t => do loadVar t (← asAddr (a.tmps.getD x undef)) : Sem Value)).run P w = .ok us w ∧ All2 (A1.R ρ β) rs us
  | [], rs, h => by
    obtain rfl := Option.some.inj h
    exact ⟨[], by simp, trivial⟩
  | .tmp t :: l, rs, h => by
    simp only [resX] at h
    split at h
    · rename_i x rs' hx hl
      obtain rfl := Option.some.inj h
      obtain ⟨us, h1, h2⟩ := resX_sound hf hm l rs' hl
      have hv := evX_R hf (.tmp t)
      rw [hx] at hv
      refine ⟨a.tmps.getD t undef :: us, ?_, hv, h2⟩
      rw [List.mapM_cons]
      simp only [Sem.run_bind, Sem.run_pure, Result.andThen_ok, h1]
    · cases h
  | .cell x t :: l, rs, h => by
    simp only [resX] at h
    split at h
    · rename_i v rs' hx hl
      obtain rfl := Option.some.inj h
      obtain ⟨us, h1, h2⟩ := resX_sound hf hm l rs' hl
      obtain ⟨av, S, u, e, k1, k2, k3, k4⟩ := load_ok (o := { op := .load t (.tmp x), dst := none, type := 0, pos := default, after := #[], guard := none }) rfl (evX_R hf) hm hx
      cases e
      have hu : (do loadVar t (← asAddr (a.tmps.getD x undef)) : Sem Value).run P w = .ok u w := by
        have := k3 w k1
        simp only [execOp, Instr.loadAt, Act.eval] at this
        exact load_addr this
      refine ⟨u :: us, ?_, k4, h2⟩
      rw [List.mapM_cons]
      simp only [Sem.run_bind] at hu ⊢
      simp only [hu, Result.andThen_ok, h1, Sem.run_pure]
    · cases h

theorem inX_sound {X : Exts} (hX : ExtOk P X) (hm : P.follows .mixedOrders = true) {call : CallT} (hcall : CallOk P rels Q0 S0 w0 call) : CallOk P rels Q0 S0 w0 (inX P X call) := by
  intro f args st k ρ β vals w h hM hnv hargs
  unfold inX at h
  split at h
  · exact h.elim
  · rename_i fn hfn
    split at h
    · exact h.elim
    · rename_i c hc
      split at h
      · rename_i hle
        obtain ⟨t, ht, hg⟩ := entryK_spec (ρ := ρ) (β := β) (nt := fn.ntmps) args 0 .e
        rw [ht] at h
        refine calls_of_wp hfn hc ?_
        have hlen : args.length = vals.length := hargs.length
        have hfr : FrR ρ β t fn.ntmps { tmps := vals.toArray ++ Array.replicate (fn.ntmps - vals.toArray.size) undef, defers := [] } := by
          refine ⟨by simp; omega, fun j v e => ?_, rfl⟩
          rw [hg] at e
          simp only [Nat.zero_le, true_and, Nat.zero_add, Nat.sub_zero, Tr.get] at e
          split at e
          · rename_i hj
            obtain ⟨u, hu, hR⟩ := hargs.get e
            have : (vals.toArray ++ Array.replicate (fn.ntmps - vals.toArray.size) undef).getD j undef = u := by
              rw [Array.getD_eq_getD_getElem?, Array.getElem?_append_left (by simp; omega)]
              simp [hu]
            rw [this]; exact hR
          · cases e
        have hfin : ∀ a w', Post rels Q0 S0 w0 ρ β (finX P fn st k) a w' → a.defers = [] ∧ ∃ v, (results fn a.tmps).run P w' = .ok v w' ∧
            ∃ v' ρ' β' av st', Ending.returned v = .returned v' ∧ Ext ρ ρ' ∧ Ext β β' ∧ (k av st').vc rels Q0 ρ' ∧ av.R ρ' β' v' ∧ Mem S0 ρ' β' st'.hp w0 w' ∧ st'.nv = ρ'.length ∧ st'.fr = st.fr ∧ st'.nt = st.nt := by
          intro a w' ⟨ρ', β', st', hρ', hβ', h', hr'⟩
          refine ⟨hr'.df, ?_⟩
          unfold finX at h'
          have hres : ∀ rs, resX P st'.fr st'.hp fn.results.toList = some rs → ∃ us : List Value, (results fn a.tmps).run P w' = .ok (if h : us.toArray.size = 1 then us.toArray[0] else .tuple us.toArray) w' ∧ All2 (A1.R ρ' β') rs us := by
            intro rs hrs
            obtain ⟨us, h1, h2⟩ := resX_sound (P := P) hr'.fr' hr'.mem fn.results.toList rs hrs
            refine ⟨us, ?_, h2⟩
            unfold results
            rw [Array.mapM_eq_mapM_toList]
            simp only [Sem.run_bind, Sem.run_map]
            exact congrArg (fun r : Result (List Value) => (r.andThen fun a w' => Result.ok a.toArray w').andThen fun (a : Array Value) w' => Result.ok (if h : a.size = 1 then a[0] else Value.tuple a) w') h1
          split at h'
          · rename_i x hx
            obtain ⟨us, h1, h2⟩ := hres _ hx
            rw [normK_spec] at h'
            match us, h2 with
            | [u], h2 =>
              exact ⟨u, by simpa using h1, u, ρ', β', _, _, rfl, hρ', hβ', h', h2.1, hr'.mem, hr'.nv, rfl, rfl⟩
          · rename_i l hne hx
            obtain ⟨us, h1, h2⟩ := hres _ hx
            have hul : us.toArray.size ≠ 1 := by
              intro h
              have := h2.length
              simp at h
              match l, this with
              | [x], _ => exact hne x rfl
              | [], this => simp at this; omega
              | _ :: _ :: _, this => simp at this; omega
            rw [dif_neg hul] at h1
            exact ⟨_, h1, _, ρ', β', _, _, rfl, hρ', hβ', h', ⟨us, rfl, h2⟩, hr'.mem, hr'.nv, rfl, rfl⟩
          · exact h'.elim
        refine codeX_sound (ρb := ρ) (βb := β) hX hm hcall 100000 c _ _ ⟨?_, ?_, ?_, ?_⟩ _ w ⟨ρ, β, _, Ext.refl _, Ext.refl _, h, Rel.mk' hfr hM hnv⟩
        · exact fun a w' hp => hfin a w' hp
        · exact fun a w' hp => hfin a w' hp
        · exact fun i a w' hp => by obtain ⟨_, _, _, _, _, h, _⟩ := hp; exact h.elim
        · intro ch a w' hq
          obtain ⟨_, v, _, _, _, _, he, _⟩ := hq
          cases he
      · exact h.elim

theorem useX_sound {f : FuncId} {con : Con} (hc : ConOk P rels f con) (hask : con.ask = false) {args : List AV} {vals : List Value} {st : St} {k : AV → St → Tree} {ρ : Env} {β : Base} {w : World} {r : List Src × List Reg × AV}
    (happ : con.app args st.hp ρ.length = some r) (h : (useX k st ρ.length con r).vc rels Q0 ρ) (hM : Mem S0 ρ β st.hp w0 w) (hargs : All2 (AV.R ρ β) args vals) :
    Calls P f vals.toArray w fun e w' => ∃ v ρ' β' av st', e = .returned v ∧ Ext ρ ρ' ∧ Ext β β' ∧ (k av st').vc rels Q0 ρ' ∧ av.R ρ' β' v ∧ Mem S0 ρ' β' st'.hp w0 w' ∧ st'.nv = ρ'.length ∧ st'.fr = st.fr ∧ st'.nt = st.nt := by
  obtain ⟨xs, hp', av⟩ := r
  obtain ⟨hpre, hpost⟩ := h
  refine (hc.2 hask S0 w0 ρ β st.hp w args vals xs hp' av hM hargs happ hpre).mono fun e w' he => ?_
  obtain ⟨v, outs, β', rfl, hlen, hpo, hβ', hR, hM'⟩ := he
  have hk := alln_spec con.n _ hpost outs hlen hpo
  exact ⟨v, ρ ++ outs, β', av, _, rfl, Ext.app _ _, hβ', hk, hR, hM', by simp [hlen], rfl, rfl⟩

theorem all2_mono {ρ ρ' : Env} {β β' : Base} (hρ : Ext ρ ρ') (hβ : Ext β β') : ∀ {l : List AV} {vs : List Value}, All2 (AV.R ρ β) l vs → All2 (AV.R ρ' β') l vs
  | [], [], _ => trivial
  | a :: l, v :: vs, h => ⟨AV.R_mono hρ hβ a v h.1, all2_mono hρ hβ h.2⟩

theorem tabX_sound {f : FuncId} {args : List AV} {vals : List Value} {k : AV → St → Tree} {inl : St → Tree} {β : Base} {w : World}
    (hin : ∀ (st : St) (ρ : Env), (inl st).vc rels Q0 ρ → Mem S0 ρ β st.hp w0 w → st.nv = ρ.length → All2 (AV.R ρ β) args vals →
      Calls P f vals.toArray w fun e w' => ∃ v ρ' β' av st', e = .returned v ∧ Ext ρ ρ' ∧ Ext β β' ∧ (k av st').vc rels Q0 ρ' ∧ av.R ρ' β' v ∧ Mem S0 ρ' β' st'.hp w0 w' ∧ st'.nv = ρ'.length ∧ st'.fr = st.fr ∧ st'.nt = st.nt) :
    ∀ (n : Nat) (tab : List (FuncId × Con)), tab.length ≤ n → (∀ f con, (f, con) ∈ tab → ConOk P rels f con) → ∀ (st : St) (ρ : Env), (tabX f args k inl tab st).vc rels Q0 ρ → Mem S0 ρ β st.hp w0 w → st.nv = ρ.length → All2 (AV.R ρ β) args vals →
      Calls P f vals.toArray w fun e w' => ∃ v ρ' β' av st', e = .returned v ∧ Ext ρ ρ' ∧ Ext β β' ∧ (k av st').vc rels Q0 ρ' ∧ av.R ρ' β' v ∧ Mem S0 ρ' β' st'.hp w0 w' ∧ st'.nv = ρ'.length ∧ st'.fr = st.fr ∧ st'.nt = st.nt := by
  intro n
  induction n with
  | zero =>
    intro tab hl htab st ρ h
    match tab, hl with
    | [], _ => exact hin st ρ h
  | succ n ih =>
    intro tab hl htab st ρ h hM hnv hargs
    cases tab with
    | nil => exact hin st ρ h hM hnv hargs
    | cons y l =>
    obtain ⟨g, c⟩ := y
    cases l with
    | nil =>
      simp only [tabX] at h
      split at h
      · rename_i hg
        subst hg
        split at h
        · rename_i r hr
          split at h
          · exact h.elim
          · rename_i hask
            rw [hnv] at h hr
            exact useX_sound (htab g c List.mem_cons_self) (by simpa using hask) hr h hM hargs
        · exact hin st ρ h hM hnv hargs
      · exact hin st ρ h hM hnv hargs
    | cons y l =>
      obtain ⟨g', c'⟩ := y
      have hrest : ∀ f con, (f, con) ∈ (g', c') :: l → ConOk P rels f con := fun f con hm => htab f con (List.mem_cons_of_mem _ hm)
      have hl' : ((g', c') :: l).length ≤ n := by simpa using hl
      simp only [tabX] at h
      split at h
      · rename_i hg
        subst hg
        split at h
        · rename_i r hr
          split at h
          · rename_i hask
            rw [forceK_spec] at h
            obtain ⟨o, ho⟩ := (htab g c (List.mem_cons_self)).1 hask (r.1.map (Src.ev ρ))
            have h2 := alln_spec 1 _ h.2 [o] rfl ho
            have hM' := hM.mono (Ext.app ρ [o])
            have ha' := all2_mono (Ext.app ρ [o]) (Ext.refl β) hargs
            have ho' : (ρ ++ [o]).getD st.nv 0 = o := by rw [hnv]; exact getD_of (by simp)
            obtain ⟨hy, hn⟩ := h2
            rw [ho'] at hy hn
            have lift : ∀ {st1 : St}, st1.fr = st.fr → st1.nt = st.nt → (Calls P g vals.toArray w fun e w' => ∃ v ρ' β' av st', e = .returned v ∧ Ext (ρ ++ [o]) ρ' ∧ Ext β β' ∧ (k av st').vc rels Q0 ρ' ∧ av.R ρ' β' v ∧ Mem S0 ρ' β' st'.hp w0 w' ∧ st'.nv = ρ'.length ∧ st'.fr = st1.fr ∧ st'.nt = st1.nt) →
                Calls P g vals.toArray w fun e w' => ∃ v ρ' β' av st', e = .returned v ∧ Ext ρ ρ' ∧ Ext β β' ∧ (k av st').vc rels Q0 ρ' ∧ av.R ρ' β' v ∧ Mem S0 ρ' β' st'.hp w0 w' ∧ st'.nv = ρ'.length ∧ st'.fr = st.fr ∧ st'.nt = st.nt := by
              intro st1 e1 e2 hc
              refine hc.mono fun e w' he => ?_
              obtain ⟨v, ρ', β', av, st', a1, a2, a3, a4, a5, a6, a7, a8, a9⟩ := he
              exact ⟨v, ρ', β', av, st', a1, (Ext.app ρ [o]).trans a2, a3, a4, a5, a6, a7, a8.trans e1, a9.trans e2⟩
            have hnv' : st.nv + 1 = (ρ ++ [o]).length := by simp [hnv]
            by_cases h0 : o = 0
            · refine lift (st1 := { st with nv := st.nv + 1 }) rfl rfl (ih l (by simp at hl; omega) (fun f con hm => htab f con (List.mem_cons_of_mem _ (List.mem_cons_of_mem _ hm))) { st with nv := st.nv + 1 } (ρ ++ [o]) (hn h0) hM' hnv' ha')
            · have h3 := hy h0
              split at h3
              · rename_i r' hr'
                split at h3
                · rename_i hg'
                  subst hg'
                  split at h3
                  · exact h3.elim
                  · rename_i hask'
                    rw [hnv'] at hr' h3
                    exact lift (st1 := { st with nv := (ρ ++ [o]).length }) rfl rfl (useX_sound (htab g' c' (List.mem_cons_of_mem _ List.mem_cons_self)) (by simpa using hask') (st := { st with nv := (ρ ++ [o]).length }) hr' h3 hM' ha')
                · exact h3.elim
              · exact h3.elim
          · rename_i hask
            rw [hnv] at h hr
            exact useX_sound (htab g c List.mem_cons_self) (by simpa using hask) hr h hM hargs
        · exact ih _ hl' hrest st ρ h hM hnv hargs
      · exact ih _ hl' hrest st ρ h hM hnv hargs

theorem callX_sound {X : Exts} (hX : ExtOk P X) (hm : P.follows .mixedOrders = true) {tab : List (FuncId × Con)} (htab : ∀ f con, (f, con) ∈ tab → ConOk P rels f con) :
    ∀ n, CallOk P rels Q0 S0 w0 (callX P X tab n) := by
  intro n
  induction n with
  | zero => intro f args st k ρ β vals w h; exact h.elim
  | succ n ih =>
    intro f args st k ρ β vals w h hM hnv hargs
    simp only [callX, forceK_spec] at h
    exact tabX_sound (fun st ρ h hM hnv hargs => inX_sound hX hm ih f args st k ρ β vals w h hM hnv hargs) tab.length tab (Nat.le_refl _) htab st ρ h hM hnv hargs

/-- The theorem: what the condition says of the executor's run holds of the call. -/
theorem topX_sound {X : Exts} (hX : ExtOk P X) (hm : P.follows .mixedOrders = true) {tab : List (FuncId × Con)} (htab : ∀ f con, (f, con) ∈ tab → ConOk P rels f con)
    {f : FuncId} {args : List AV} {vals : List Value} {hp : List Reg} {ρ : Env} {β : Base} {w : World} (nv : Nat) (hM : Mem S0 ρ β hp w0 w) (hnv : nv = ρ.length) (hargs : All2 (AV.R ρ β) args vals)
    (h : (topX P X tab f args hp nv).vc rels Q0 ρ) :
    Calls P f vals.toArray w fun e w' => ∃ v ρ' β' av hp', e = .returned v ∧ Ext ρ ρ' ∧ Ext β β' ∧ av.R ρ' β' v ∧ Mem S0 ρ' β' hp' w0 w' ∧ Q0 ρ' av hp' := by
  refine (callX_sound (S0 := S0) (w0 := w0) hX hm htab 100 f args ⟨.e, 0, hp, nv⟩ _ ρ β vals w h hM hnv hargs).mono fun e w' he => ?_
  obtain ⟨v, ρ', β', av, st', rfl, h1, h2, h3, h4, h5, _⟩ := he
  exact ⟨v, ρ', β', av, st'.hp, rfl, h1, h2, h4, h5, h3⟩
end
end Go.Sx

/- Contracts from runs over a canonical state: what is proved once for numbered regions and variables is used at whatever regions and numbers a caller hands over. -/
namespace Go.Sx
open Go

def Src.eqB : Src → Src → Bool
  | .c a, .c b => a == b
  | .v a, .v b => a == b
  | _, _ => false
theorem Src.eqB_spec {a b : Src} (h : a.eqB b = true) : a = b := by
  cases a <;> cases b <;> simp [Src.eqB] at h <;> simp [h]

/-- 'c' is the caller's 's', under the map of regions m and the numbers xs. -/
def instS (m : List (Nat × Nat)) (xs : List Src) : Sc → Sc → Bool
  | .und, _ => true
  | .bool a, .bool b => a == b
  | .int k n, .int k' n' => k == k' && n == n'
  | .var k i, s => match srcK s, xs[i]? with
    | some (k', x), some y => k == k' && x.eqB y
    | _, _ => false
  | .boolv i, .bool b => match xs[i]? with
    | some (.c n) => (n != 0) == b
    | _ => false
  | .boolv i, .boolv j => match xs[i]? with
    | some (.v j') => j == j'
    | _ => false
  | .ptr r o, .ptr r' o' => match m[r]? with
    | some q => q.1 == r' && o' == q.2 + o
    | none => false
  | .slice r o l c, .slice r' o' l' c' => match m[r]? with
    | some q => q.1 == r' && o' == q.2 + o && l == l' && c == c'
    | none => false
  | .sliceU r o l, .slice r' o' l' c' => match m[r]? with
    | some q => q.1 == r' && o' == q.2 + o && l == l' && decide (l' ≤ c')
    | none => false
  | .sliceU r o l, .sliceU r' o' l' => match m[r]? with
    | some q => q.1 == r' && o' == q.2 + o && l == l'
    | none => false
  | .sliceU r o l, .sliceC r' o' l' _ => match m[r]? with
    | some q => q.1 == r' && o' == q.2 + o && l == l'
    | none => false
  | .sliceC r o l i, .slice r' o' l' c' => match m[r]?, xs[i]? with
    | some q, some (.c n) => q.1 == r' && o' == q.2 + o && l == l' && decide (l' ≤ c') && n == (c' : Int) && decide ((c' : Int) ≤ 9223372036854775807)
    | _, _ => false
  | .sliceC r o l i, .sliceC r' o' l' j => match m[r]?, xs[i]? with
    | some q, some (.v j') => q.1 == r' && o' == q.2 + o && l == l' && j == j'
    | _, _ => false
  | .sliceU r o l, .sliceW r' o' l' lo _ => match m[r]? with
    | some q => q.1 == r' && o' == q.2 + o && l == l' && decide (l' ≤ lo)
    | none => false
  | .sliceV i, .sliceV j => match xs[i]? with
    | some (.v j') => j == j'
    | _ => false
  | .nilp, .nilp => true
  | .nils, .nils => true
  | .nilIface, .nilIface => true
  | .str a, .str b => decide (a = b)
  | .func a, .func b => a == b
  | .iface t v, .iface t' v' => t == t' && instS m xs v v'
  | _, _ => false

def baseOf (β : Base) (q : Nat × Nat) : Nat × Nat :=
  match β[q.1]? with
  | some b => (b.1, b.2 + q.2)
  | none => (0, 0)

theorem instS_R {m : List (Nat × Nat)} {xs : List Src} {ρ : Env} {β : Base} : ∀ (c s : Sc) (v : Value), instS m xs c s = true → s.R ρ β v → c.R (xs.map (Src.ev ρ)) (m.map (baseOf β)) v := by
  intro c
  induction c with
  | und => intro s v _ _; trivial
  | var k i =>
    intro s v h hR
    simp only [instS] at h
    split at h
    · rename_i k' x y hs hx
      simp only [Bool.and_eq_true, beq_iff_eq] at h
      obtain ⟨rfl, h2⟩ := h
      obtain rfl := Src.eqB_spec h2
      obtain ⟨h3, h4⟩ := srcK_spec hs hR
      exact ⟨x.ev ρ, by simp [hx], h3, h4⟩
    · cases h
  | ptr r o =>
    intro s v h hR
    cases s <;> simp only [instS] at h <;> first | (cases h; done) | skip
    split at h
    · rename_i q hq
      simp only [Bool.and_eq_true, beq_iff_eq] at h
      obtain ⟨rfl, rfl⟩ := h
      obtain ⟨b, hb, rfl⟩ := hR
      exact ⟨(b.1, b.2 + q.2), by simp [hq, baseOf, hb], by simp [Nat.add_assoc]⟩
    · cases h
  | slice r o l c =>
    intro s v h hR
    cases s <;> simp only [instS] at h <;> first | (cases h; done) | skip
    split at h
    · rename_i q hq
      simp only [Bool.and_eq_true, beq_iff_eq] at h
      obtain ⟨⟨⟨rfl, rfl⟩, rfl⟩, rfl⟩ := h
      obtain ⟨b, hb, rfl⟩ := hR
      exact ⟨(b.1, b.2 + q.2), by simp [hq, baseOf, hb], by simp [Nat.add_assoc]⟩
    · cases h
  | sliceU r o l =>
    intro s v h hR
    cases s <;> simp only [instS] at h <;> first | (cases h; done) | skip
    · split at h
      · rename_i q hq
        simp only [Bool.and_eq_true, beq_iff_eq, decide_eq_true_eq] at h
        obtain ⟨⟨⟨rfl, rfl⟩, rfl⟩, hle⟩ := h
        obtain ⟨b, hb, rfl⟩ := hR
        exact ⟨(b.1, b.2 + q.2), _, by simp [hq, baseOf, hb], by simp [Nat.add_assoc], hle⟩
      · cases h
    · split at h
      · rename_i q hq
        simp only [Bool.and_eq_true, beq_iff_eq] at h
        obtain ⟨⟨rfl, rfl⟩, rfl⟩ := h
        obtain ⟨b, cap, hb, rfl, hle⟩ := hR
        exact ⟨(b.1, b.2 + q.2), cap, by simp [hq, baseOf, hb], by simp [Nat.add_assoc], hle⟩
      · cases h
    · split at h
      · rename_i q hq
        simp only [Bool.and_eq_true, beq_iff_eq, decide_eq_true_eq] at h
        obtain ⟨⟨⟨rfl, rfl⟩, rfl⟩, hle⟩ := h
        obtain ⟨b, cap, hb, rfl, hlo, _⟩ := hR
        exact ⟨(b.1, b.2 + q.2), cap, by simp [hq, baseOf, hb], by simp [Nat.add_assoc], Nat.le_trans hle hlo⟩
      · cases h
    · split at h
      · rename_i q hq
        simp only [Bool.and_eq_true, beq_iff_eq] at h
        obtain ⟨⟨rfl, rfl⟩, rfl⟩ := h
        obtain ⟨b, n, hb, hn, rfl, hle, _⟩ := hR
        exact ⟨(b.1, b.2 + q.2), n, by simp [hq, baseOf, hb], by simp [Nat.add_assoc], hle⟩
      · cases h
  | sliceC r o l i =>
    intro s v h hR
    cases s <;> simp only [instS] at h <;> first | (cases h; done) | skip
    · split at h
      · rename_i q n hq hx
        simp only [Bool.and_eq_true, beq_iff_eq, decide_eq_true_eq] at h
        obtain ⟨⟨⟨⟨⟨rfl, rfl⟩, rfl⟩, hle⟩, rfl⟩, hb63⟩ := h
        obtain ⟨b, hb, rfl⟩ := hR
        exact ⟨(b.1, b.2 + q.2), _, by simp [hq, baseOf, hb], by simp [hx, Src.ev], by simp [Nat.add_assoc], hle, by simp only [Fits, kmin, kmax]; omega⟩
      · cases h
    · split at h
      · rename_i q j' hq hx
        simp only [Bool.and_eq_true, beq_iff_eq] at h
        obtain ⟨⟨⟨rfl, rfl⟩, rfl⟩, rfl⟩ := h
        obtain ⟨b, n, hb, hn, rfl, hle, hf⟩ := hR
        exact ⟨(b.1, b.2 + q.2), n, by simp [hq, baseOf, hb], by simp [hx, Src.ev, hn], by simp [Nat.add_assoc], hle, hf⟩
      · cases h
  | sliceV i =>
    intro s v h hR
    cases s <;> simp only [instS] at h <;> first | (cases h; done) | skip
    split at h
    · rename_i j' hj
      simp only [beq_iff_eq] at h
      subst h
      obtain ⟨n, p, cap, hn, hv⟩ := hR
      exact ⟨n, p, cap, by simp [hj, Src.ev, hn], hv⟩
    · cases h
  | bool a => intro s v h hR; cases s <;> simp [instS] at h; subst h; exact hR
  | int k n =>
    intro s v h hR
    cases s <;> simp [instS] at h
    obtain ⟨rfl, rfl⟩ := h
    exact hR
  | sliceW r o l lo hi => intro s v h hR; cases s <;> simp [instS] at h
  | sliceN r i => intro s v h hR; cases s <;> simp [instS] at h
  | nilp => intro s v h hR; cases s <;> simp [instS] at h; exact hR
  | nils => intro s v h hR; cases s <;> simp [instS] at h; exact hR
  | nilIface => intro s v h hR; cases s <;> simp [instS] at h; exact hR
  | str a =>
    intro s v h hR
    cases s <;> simp [instS] at h
    subst h
    exact hR
  | func a =>
    intro s v h hR
    cases s <;> simp [instS] at h
    subst h
    exact hR
  | iface t x ih =>
    intro s v h hR
    cases s <;> simp [instS] at h
    obtain ⟨rfl, h⟩ := h
    obtain ⟨u, rfl, hu⟩ := hR
    exact ⟨u, rfl, ih _ u h hu⟩
  | boolv i =>
    intro s v h hR
    cases s <;> simp only [instS] at h <;> first | (cases h; done) | skip
    · split at h
      · rename_i n hn
        simp only [beq_iff_eq] at h
        subst h
        exact ⟨n, by simp [hn, Src.ev], hR⟩
      · cases h
    · split at h
      · rename_i j' hj
        simp only [beq_iff_eq] at h
        subst h
        obtain ⟨n, hn, hv⟩ := hR
        exact ⟨n, by simp [hj, Src.ev, hn], hv⟩
      · cases h

def instL (m : List (Nat × Nat)) (xs : List Src) : List Sc → List Sc → Bool
  | [], [] => true
  | c :: cs, s :: ss => instS m xs c s && instL m xs cs ss
  | _, _ => false
theorem instL_R {m : List (Nat × Nat)} {xs : List Src} {ρ : Env} {β : Base} : ∀ (cs ss : List Sc) (vs : List Value), instL m xs cs ss = true → All2 (Sc.R ρ β) ss vs → All2 (Sc.R (xs.map (Src.ev ρ)) (m.map (baseOf β))) cs vs
  | [], [], [], _, _ => trivial
  | c :: cs, s :: ss, v :: vs, h, hR => by
    simp only [instL, Bool.and_eq_true] at h
    exact ⟨instS_R c s v h.1 hR.1, instL_R cs ss vs h.2 hR.2⟩
theorem instL_get {m : List (Nat × Nat)} {xs : List Src} : ∀ (cs ss : List Sc), instL m xs cs ss = true → ∀ (i : Nat) (c : Sc), cs[i]? = some c → ∃ s, ss[i]? = some s ∧ instS m xs c s = true
  | c :: cs, s :: ss, h, 0, x, e => by simp at e; subst e; simp only [instL, Bool.and_eq_true] at h; exact ⟨s, rfl, h.1⟩
  | c :: cs, s :: ss, h, i + 1, x, e => by
    simp only [instL, Bool.and_eq_true] at h
    simpa using instL_get cs ss h.2 i x (by simpa using e)
theorem instL_length {m : List (Nat × Nat)} {xs : List Src} : ∀ (cs ss : List Sc), instL m xs cs ss = true → cs.length = ss.length
  | [], [], _ => rfl
  | c :: cs, s :: ss, h => by
    simp only [instL, Bool.and_eq_true] at h
    simp [instL_length cs ss h.2]

def instA (m : List (Nat × Nat)) (xs : List Src) : AV → AV → Bool
  | .one (.s c), .one (.s s) => instS m xs c s
  | .one (.g cs), .one (.g ss) => instL m xs cs ss
  | _, _ => false
theorem instA_R {m : List (Nat × Nat)} {xs : List Src} {ρ : Env} {β : Base} {c s : AV} {v : Value} (h : instA m xs c s = true) (hR : s.R ρ β v) : c.R (xs.map (Src.ev ρ)) (m.map (baseOf β)) v := by
  unfold instA at h
  split at h
  · exact instS_R _ _ _ h hR
  · obtain ⟨us, rfl, h2⟩ := hR
    exact ⟨us, rfl, instL_R _ _ _ h h2⟩
  · cases h
def instAs (m : List (Nat × Nat)) (xs : List Src) : List AV → List AV → Bool
  | [], [] => true
  | c :: cs, s :: ss => instA m xs c s && instAs m xs cs ss
  | _, _ => false
theorem instAs_R {m : List (Nat × Nat)} {xs : List Src} {ρ : Env} {β : Base} : ∀ (cs ss : List AV) (vs : List Value), instAs m xs cs ss = true → All2 (AV.R ρ β) ss vs → All2 (AV.R (xs.map (Src.ev ρ)) (m.map (baseOf β))) cs vs
  | [], [], [], _, _ => trivial
  | c :: cs, s :: ss, v :: vs, h, hR => by
    simp only [instAs, Bool.and_eq_true] at h
    exact ⟨instA_R h.1 hR.1, instAs_R cs ss vs h.2 hR.2⟩

/-! ### Matching: finds the map; what it finds is checked by inst. -/
structure Sub where
  m : List (Nat × (Nat × Nat))
  v : List (Nat × Src)

def lookA {α : Type} : List (Nat × α) → Nat → Option α
  | [], _ => none
  | (k, a) :: l, n => if k = n then some a else lookA l n

def Sub.reg (σ : Sub) (r o r' o' : Nat) : Sub :=
  match lookA σ.m r with
  | some _ => σ
  | none => { σ with m := (r, (r', o' - o)) :: σ.m }
def matS (σ : Sub) : Sc → Sc → Sub
  | .var _ i, s => match srcK s with
    | some (_, x) => { σ with v := (i, x) :: σ.v }
    | none => σ
  | .boolv i, .bool b => { σ with v := (i, .c (if b then 1 else 0)) :: σ.v }
  | .boolv i, .boolv j => { σ with v := (i, .v j) :: σ.v }
  | .ptr r o, .ptr r' o' => σ.reg r o r' o'
  | .slice r o _ _, .slice r' o' _ _ => σ.reg r o r' o'
  | .sliceU r o _, .slice r' o' _ _ => σ.reg r o r' o'
  | .sliceU r o _, .sliceU r' o' _ => σ.reg r o r' o'
  | .sliceU r o _, .sliceW r' o' _ _ _ => σ.reg r o r' o'
  | .sliceU r o _, .sliceC r' o' _ _ => σ.reg r o r' o'
  | .sliceC r o _ i, .slice r' o' _ c => match σ.reg r o r' o' with
    | ⟨m, v⟩ => ⟨m, (i, .c (c : Int)) :: v⟩
  | .sliceC r o _ i, .sliceC r' o' _ j => match σ.reg r o r' o' with
    | ⟨m, v⟩ => ⟨m, (i, .v j) :: v⟩
  | .sliceV i, .sliceV j => { σ with v := (i, .v j) :: σ.v }
  | .iface _ v, .iface _ v' => matS σ v v'
  | _, _ => σ
def matL (σ : Sub) : List Sc → List Sc → Sub
  | c :: cs, s :: ss => matL (matS σ c s) cs ss
  | _, _ => σ
def matA (σ : Sub) : List AV → List AV → Sub
  | .one (.s c) :: cs, .one (.s s) :: ss => matA (matS σ c s) cs ss
  | .one (.g c) :: cs, .one (.g s) :: ss => matA (matL σ c s) cs ss
  | _, _ => σ
def matH (hp : List Reg) : List Reg → Nat → Sub → Sub
  | [], _, σ => σ
  | g :: l, j, σ => match lookA σ.m j with
    | some (r, o) => match hp[r]? with
      | some g' => matH hp l (j + 1) (matL σ g.cs (g'.cs.drop o))
      | none => σ
    | none => σ

def regsOf (σ : Sub) : Nat → Nat → Option (List (Nat × Nat))
  | _, 0 => some []
  | j, n + 1 => match lookA σ.m j, regsOf σ (j + 1) n with
    | some q, some l => some (q :: l)
    | _, _ => none
def srcsSlow (σ : Sub) : Nat → Nat → Option (List Src)
  | _, 0 => some []
  | j, n + 1 => match lookA σ.v j, srcsSlow σ (j + 1) n with
    | some q, some l => some (q :: l)
    | _, _ => none
/-- In one walk, where the numbers come in order. -/
def srcsLin : List (Nat × Src) → Nat → Nat → Option (List Src)
  | _, _, 0 => some []
  | [], _, _ + 1 => none
  | (k, x) :: l, j, n + 1 => if k = j then (match srcsLin l (j + 1) n with
      | some r => some (x :: r)
      | none => none) else if k < j then srcsLin l j (n + 1) else none
def srcsOf (σ : Sub) (j n : Nat) : Option (List Src) :=
  match srcsLin σ.v.reverse j n with
  | some r => some r
  | none => srcsSlow σ j n

/-! ### The caller's side of a contract -/
structure Can where
  id : Nat
  kinds : List IntKind
  args : List AV
  hp : List Reg
  outs : List IntKind
  res : AV
  hpE : List (List Sc)
  new : List (List Sc)

def subReg (can : Can) (m : List (Nat × Nat)) (nr r o : Nat) : Option (Nat × Nat) := if r < can.hp.length then (match m[r]? with
  | some q => some (q.1, q.2 + o)
  | none => none) else some (nr + (r - can.hp.length), o)
/-- Canonical cells of the end in the caller's words: b the first new variable, nr the first new region. -/
def subS (can : Can) (m : List (Nat × Nat)) (xs : List Src) (b nr : Nat) : Sc → Sc
  | .var k i => if i < can.kinds.length then (match xs[i]? with
      | some (.c n) => .int k n
      | some (.v j) => .var k j
      | none => .und) else .var k (b + (i - can.kinds.length))
  | .ptr r o => if r < can.hp.length then (match m[r]? with
      | some q => .ptr q.1 (q.2 + o)
      | none => .und) else .ptr (nr + (r - can.hp.length)) o
  | .slice r o l c => if r < can.hp.length then (match m[r]? with
      | some q => .slice q.1 (q.2 + o) l c
      | none => .und) else .slice (nr + (r - can.hp.length)) o l c
  | .sliceU r o l => if r < can.hp.length then (match m[r]? with
      | some q => .sliceU q.1 (q.2 + o) l
      | none => .und) else .sliceU (nr + (r - can.hp.length)) o l
  | .iface t v => .iface t (subS can m xs b nr v)
  | .boolv i => if i < can.kinds.length then .und else .boolv (b + (i - can.kinds.length))
  | .sliceC r o l i => match subReg can m nr r o with
    | some (r', o') => if i < can.kinds.length then (match xs[i]? with
      | some (.c n) => .slice r' o' l n.toNat
      | some (.v j) => .sliceC r' o' l j
      | none => .und) else .sliceC r' o' l (b + (i - can.kinds.length))
    | none => .und
  | .sliceW .. => .und
  | .sliceN .. => .und
  | .sliceV i => if i < can.kinds.length then (match xs[i]? with
      | some (.v j) => .sliceV j
      | _ => .und) else .sliceV (b + (i - can.kinds.length))
  | s => s
def sub1 (can : Can) (m : List (Nat × Nat)) (xs : List Src) (b nr : Nat) : A1 → A1
  | .s c => .s (subS can m xs b nr c)
  | .g cs => .g (cs.map (subS can m xs b nr))
def subA (can : Can) (m : List (Nat × Nat)) (xs : List Src) (b nr : Nat) : AV → AV
  | .one a => .one (sub1 can m xs b nr a)
  | .tup vs => .tup (vs.map (sub1 can m xs b nr))
end Go.Sx

/- Contracts over a canonical state, used at a caller's state. -/
namespace Go.Sx
open Go

theorem over_get {α : Type} : ∀ (ds l : List α) (o i : Nat), (over l o ds)[i]? = if o ≤ i ∧ i < o + ds.length ∧ i < l.length then ds[i - o]? else l[i]?
  | [], l, o, i => by simp [over]; intro h1 h2; omega
  | d :: ds, l, o, i => by
    rw [over, over_get ds (l.set o d) (o + 1) i]
    simp only [List.length_set, List.length_cons]
    by_cases hi : i = o
    · subst hi
      rw [if_neg (by omega)]
      by_cases hl : i < l.length
      · rw [if_pos (by omega)]; simp [hl]
      · rw [if_neg (by omega)]
        rw [List.getElem?_eq_none (by simpa using Nat.le_of_not_lt hl), List.getElem?_eq_none (Nat.le_of_not_lt hl)]
    · rw [List.getElem?_set_ne (Ne.symm hi)]
      by_cases hc : o + 1 ≤ i ∧ i < o + 1 + ds.length ∧ i < l.length
      · rw [if_pos hc, if_pos (by omega), show i - o = (i - (o + 1)) + 1 by omega, List.getElem?_cons_succ]
      · rw [if_neg hc, if_neg (by omega)]

theorem lt_of_some {α : Type} {l : List α} {i : Nat} {x : α} (h : l[i]? = some x) : i < l.length := (List.getElem?_eq_some_iff.1 h).1

/-- The cells outside T are as the heap says. -/
def CellsOk (T : Nat → Nat → Prop) (ρ : Env) (β : Base) (hp : List Reg) (w : World) : Prop :=
  ∀ (r : Nat) (g : Reg) (x : Nat × Nat), hp[r]? = some g → β[r]? = some x → ∀ (i : Nat) (c : Sc), g.cs[i]? = some c → ¬ T x.1 (x.2 + i) → ∃ v, w.cell? ⟨x.1, x.2 + i, none⟩ = some v ∧ c.R ρ β v

def Disj (β : Base) (hp : List Reg) : Prop := ∀ (r r' : Nat) (g g' : Reg) (x x' : Nat × Nat), hp[r]? = some g → hp[r']? = some g' → β[r]? = some x → β[r']? = some x' → r ≠ r' → (g.rw = true ∨ g'.rw = true) → ∀ i j, i < g.cs.length → j < g'.cs.length → ¬ (x.1 = x'.1 ∧ x.2 + i = x'.2 + j)

/-- The same rights and lengths. -/
def Shape (hp hp' : List Reg) : Prop := hp'.length = hp.length ∧ ∀ (r : Nat) (g : Reg), hp'[r]? = some g → ∃ g0, hp[r]? = some g0 ∧ g.rw = g0.rw ∧ g.cs.length = g0.cs.length ∧ g.it = g0.it ∧ g.bulk = g0.bulk
theorem Shape.refl (hp : List Reg) : Shape hp hp := ⟨rfl, fun r g h => ⟨g, h, rfl, rfl, rfl, rfl⟩⟩
theorem Shape.trans {a b c : List Reg} (h : Shape a b) (k : Shape b c) : Shape a c :=
  ⟨k.1.trans h.1, fun r g e => by
    obtain ⟨g1, e1, r1, l1, i1, j1⟩ := k.2 r g e
    obtain ⟨g2, e2, r2, l2, i2, j2⟩ := h.2 r g1 e1
    exact ⟨g2, e2, r1.trans r2, l1.trans l2, i1.trans i2, j1.trans j2⟩⟩
theorem Shape.set {hp : List Reg} {r : Nat} {g : Reg} (hr : hp[r]? = some g) {cs : List Sc} (hl : cs.length = g.cs.length) : Shape hp (hp.set r { g with cs := cs }) :=
  ⟨by simp, fun r' g' e => by
    by_cases h : r = r'
    · subst h
      rw [List.getElem?_set_self (lt_of_some hr)] at e
      obtain rfl := Option.some.inj e
      exact ⟨g, hr, rfl, hl, rfl, rfl⟩
    · rw [List.getElem?_set_ne h] at e
      exact ⟨g', e, rfl, rfl, rfl, rfl⟩⟩
theorem Disj.shape {β : Base} {hp hp' : List Reg} (h : Disj β hp) (s : Shape hp hp') : Disj β hp' := by
  intro r r' g g' x x' e e' ex ex' hne hor i j hi hj
  obtain ⟨g0, f0, q0, l0, _⟩ := s.2 r g e
  obtain ⟨g1, f1, q1, l1, _⟩ := s.2 r' g' e'
  exact h r r' g0 g1 x x' f0 f1 ex ex' hne (by rw [← q0, ← q1]; exact hor) i j (l0 ▸ hi) (l1 ▸ hj)

theorem CellsOk.upd {T : Nat → Nat → Prop} {ρ : Env} {β : Base} {hp : List Reg} {w : World} (h : CellsOk T ρ β hp w) (hdis : Disj β hp) {r o : Nat} {g : Reg} {x : Nat × Nat} {ds : List Sc} (hr : hp[r]? = some g) (hx : β[r]? = some x) (hgw : g.rw = true) (hl : o + ds.length ≤ g.cs.length)
    (hd : ∀ (i : Nat) d, ds[i]? = some d → ∃ v, w.cell? ⟨x.1, x.2 + o + i, none⟩ = some v ∧ d.R ρ β v) :
    CellsOk (fun b i => T b i ∧ ¬ (b = x.1 ∧ x.2 + o ≤ i ∧ i < x.2 + o + ds.length)) ρ β (hp.set r { g with cs := over g.cs o ds }) w := by
  intro r' g' x' hr' hx' i c hc hT
  by_cases hrr : r = r'
  · subst hrr
    have : g' = { g with cs := over g.cs o ds } := by
      rw [List.getElem?_set_self (lt_of_some hr)] at hr'
      exact (Option.some.inj hr').symm
    subst this
    obtain rfl : x' = x := by rw [hx] at hx'; exact (Option.some.inj hx').symm
    simp only [over_get] at hc
    split at hc
    · rename_i hin
      obtain ⟨v, h1, h2⟩ := hd _ _ hc
      rw [show x'.2 + o + (i - o) = x'.2 + i by omega] at h1
      exact ⟨v, h1, h2⟩
    · rename_i hin
      have := lt_of_some hc
      refine h r g x' hr hx i c hc fun ht => hT ⟨ht, fun hh => hin ?_⟩
      omega
  · rw [List.getElem?_set_ne hrr] at hr'
    refine h r' g' x' hr' hx' i c hc fun ht => hT ⟨ht, fun hh => ?_⟩
    exact hdis r r' g g' x x' hr hr' hx hx' hrr (.inl hgw) (i + x'.2 - x.2) i (by omega) (lt_of_some hc) ⟨hh.1.symm, by omega⟩

/-- The caller's heap behind the call. -/
def outH (sub : Sc → Sc) : List Reg → List (List Sc) → List (Nat × Nat) → List Reg → List Reg
  | g :: gs, e :: es, q :: qs, hp => outH sub gs es qs (if g.rw then (match hp[q.1]? with
      | some g' => hp.set q.1 { g' with cs := over g'.cs q.2 (e.map sub) }
      | none => hp) else hp)
  | _, _, _, hp => hp

/-- A canonical region's range in the caller's memory. -/
def InReg (β : Base) (g : Reg) (q : Nat × Nat) (b i : Nat) : Prop := ∃ x, β[q.1]? = some x ∧ b = x.1 ∧ x.2 + q.2 ≤ i ∧ i < x.2 + q.2 + g.cs.length

theorem outH_ok {sub : Sc → Sc} {ρ : Env} {β : Base} {w : World} : ∀ (gs : List Reg) (es : List (List Sc)) (qs : List (Nat × Nat)) (hp : List Reg) (T : Nat → Nat → Prop), CellsOk T ρ β hp w → Disj β hp → es.length = gs.length → qs.length = gs.length →
    (∀ (j : Nat) g e q, gs[j]? = some g → es[j]? = some e → qs[j]? = some q → e.length = g.cs.length ∧ ∃ g', hp[q.1]? = some g' ∧ q.2 + g.cs.length ≤ g'.cs.length ∧ (g.rw = true → g'.rw = true) ∧ ∃ x, β[q.1]? = some x ∧
      (g.rw = true → ∀ (i : Nat) d, e[i]? = some d → ∃ v, w.cell? ⟨x.1, x.2 + q.2 + i, none⟩ = some v ∧ (sub d).R ρ β v)) →
    Shape hp (outH sub gs es qs hp) ∧ CellsOk (fun b i => T b i ∧ ∀ (j : Nat) g q, gs[j]? = some g → qs[j]? = some q → g.rw = true → ¬ InReg β g q b i) ρ β (outH sub gs es qs hp) w
  | [], es, qs, hp, T, hc, _, h1, h2, _ => by
    have : outH sub [] es qs hp = hp := by cases es <;> cases qs <;> rfl
    rw [this]
    exact ⟨Shape.refl _, fun r g x e ex i c hc' hT => hc r g x e ex i c hc' fun ht => hT ⟨ht, fun j g q h => by simp at h⟩⟩
  | g :: gs, [], qs, hp, T, hc, _, h1, h2, _ => by simp at h1
  | g :: gs, e :: es, [], hp, T, hc, _, h1, h2, _ => by simp at h2
  | g :: gs, e :: es, q :: qs, hp, T, hc, hdis, h1, h2, hall => by
    obtain ⟨hel, g', hg', hle, hgw, x, hx, hcell⟩ := hall 0 g e q rfl rfl rfl
    simp only [outH]
    by_cases hrw : g.rw = true
    · simp only [hrw, if_true, hg']
      have hlen : (e.map sub).length = g.cs.length := by simp [hel]
      have hc' := hc.upd hdis (ds := e.map sub) hg' hx (hgw hrw) (by rw [hlen]; exact hle) (fun i d hd => by
        rw [List.getElem?_map] at hd
        cases he : e[i]? with
        | none => rw [he] at hd; cases hd
        | some d0 =>
          rw [he] at hd
          obtain rfl := Option.some.inj hd
          exact hcell hrw i d0 he)
      have hs : Shape hp (hp.set q.1 { g' with cs := over g'.cs q.2 (e.map sub) }) := Shape.set hg' (over_length _ _ _)
      obtain ⟨s1, c1⟩ := outH_ok gs es qs _ _ hc' (hdis.shape hs) (by simpa using h1) (by simpa using h2) (fun j gj ej qj a b c => by
        obtain ⟨k1, g2, k2, k3, kw, y, k4, k5⟩ := hall (j + 1) gj ej qj (by simpa using a) (by simpa using b) (by simpa using c)
        refine ⟨k1, ?_⟩
        have hlt : qj.1 < (hp.set q.1 { g' with cs := over g'.cs q.2 (e.map sub) }).length := by simpa using lt_of_some k2
        obtain ⟨g3, m1, mw, m3, _⟩ := hs.2 qj.1 _ (List.getElem?_eq_getElem hlt)
        obtain rfl : g3 = g2 := by rw [k2] at m1; exact (Option.some.inj m1).symm
        exact ⟨_, List.getElem?_eq_getElem hlt, by rw [m3]; exact k3, by rw [mw]; exact kw, y, k4, k5⟩)
      refine ⟨hs.trans s1, fun r gr xr a b i c hci hT => c1 r gr xr a b i c hci fun ht => hT ⟨ht.1.1, fun j gj qj k1 k2 k3 hin => ?_⟩⟩
      cases j with
      | zero =>
        simp at k1 k2
        subst k1 k2
        obtain ⟨y, hy, e1, e2, e3⟩ := hin
        obtain rfl : y = x := by rw [hx] at hy; exact (Option.some.inj hy).symm
        exact ht.1.2 ⟨e1, e2, by rw [hlen]; exact e3⟩
      | succ j => exact ht.2 j gj qj (by simpa using k1) (by simpa using k2) k3 hin
    · have hrw' : g.rw = false := by simpa using hrw
      simp only [hrw', Bool.false_eq_true, if_false]
      obtain ⟨s1, c1⟩ := outH_ok gs es qs hp T hc hdis (by simpa using h1) (by simpa using h2) (fun j gj ej qj a b c => hall (j + 1) gj ej qj (by simpa using a) (by simpa using b) (by simpa using c))
      refine ⟨s1, fun r gr xr a b i c hci hT => c1 r gr xr a b i c hci fun ht => hT ⟨ht.1, fun j gj qj k1 k2 k3 hin => ?_⟩⟩
      cases j with
      | zero =>
        simp at k1
        subst k1
        exact hrw k3
      | succ j => exact ht.2 j gj qj (by simpa using k1) (by simpa using k2) k3 hin
end Go.Sx

/- A contract over a canonical state is a contract. -/
namespace Go.Sx
open Go

def canOld (β : Base) (hp : List Reg) : Old :=
  { S := fun b i => ∃ (j : Nat) (g : Reg) (x : Nat × Nat), hp[j]? = some g ∧ β[j]? = some x ∧ g.rw = true ∧ b = x.1 ∧ x.2 ≤ i ∧ i < x.2 + g.cs.length, n0 := hp.length }

structure CanPost (rels : Nat → RelSpec) (can : Can) (ρ : Env) (β : Base) (w w' : World) (v : Value) (outs : Env) (nb : Base) : Prop where
  len : outs.length = can.outs.length
  post : (rels can.id).post ρ outs
  nbl : nb.length = can.new.length
  res : can.res.R (ρ ++ outs) (β ++ nb) v
  keep : Keep (canOld β can.hp).S w w'
  old : ∀ (j : Nat) e (x : Nat × Nat), can.hpE[j]? = some e → β[j]? = some x → ∀ (i : Nat) c, e[i]? = some c → ∃ u, w'.cell? ⟨x.1, x.2 + i, none⟩ = some u ∧ c.R (ρ ++ outs) (β ++ nb) u
  new : ∀ (k : Nat) e (x : Nat × Nat), can.new[k]? = some e → nb[k]? = some x → w.heap.size ≤ x.1 ∧ ∀ (i : Nat) c, e[i]? = some c → (∃ u, w'.cell? ⟨x.1, x.2 + i, none⟩ = some u ∧ c.R (ρ ++ outs) (β ++ nb) u) ∧ w'.frozen? ⟨x.1, x.2 + i, none⟩ = false
  dis : ∀ (k k' : Nat) e e' (x x' : Nat × Nat), can.new[k]? = some e → can.new[k']? = some e' → nb[k]? = some x → nb[k']? = some x' → k ≠ k' → ∀ i j, i < e.length → j < e'.length → ¬ (x.1 = x'.1 ∧ x.2 + i = x'.2 + j)

def CanOk (P : Program) (rels : Nat → RelSpec) (f : FuncId) (can : Can) : Prop :=
  ∀ (w : World) (ρ : Env) (β : Base) (vals : List Value), Mem (canOld β can.hp) ρ β can.hp w w → ρ.length = can.kinds.length → All2 (AV.R ρ β) can.args vals → (rels can.id).pre ρ →
    Calls P f vals.toArray w fun e w' => ∃ v outs nb, e = .returned v ∧ CanPost rels can ρ β w w' v outs nb

/-- Each region of the map fits its canonical one. -/
def chkH (m : List (Nat × Nat)) (xs : List Src) (hp : List Reg) : List Reg → List (List Sc) → List (Nat × Nat) → Bool
  | [], [], [] => true
  | g :: gs, e :: es, q :: qs => (match hp[q.1]? with
      | some g' => instL m xs g.cs ((g'.cs.drop q.2).take g.cs.length) && (!g.rw || g'.rw) && decide (q.2 + g.cs.length ≤ g'.cs.length)
      | none => false) && e.length == g.cs.length && chkH m xs hp gs es qs
  | _, _, _ => false
theorem chkH_spec {m : List (Nat × Nat)} {xs : List Src} {hp : List Reg} : ∀ (gs : List Reg) (es : List (List Sc)) (qs : List (Nat × Nat)), chkH m xs hp gs es qs = true → es.length = gs.length ∧ qs.length = gs.length ∧
    ∀ (j : Nat) g e q, gs[j]? = some g → es[j]? = some e → qs[j]? = some q → e.length = g.cs.length ∧ ∃ g', hp[q.1]? = some g' ∧ instL m xs g.cs ((g'.cs.drop q.2).take g.cs.length) = true ∧ (g.rw = true → g'.rw = true) ∧ q.2 + g.cs.length ≤ g'.cs.length
  | [], [], [], _ => ⟨rfl, rfl, fun j g e q h => by simp at h⟩
  | g :: gs, e :: es, q :: qs, h => by
    simp only [chkH, Bool.and_eq_true, beq_iff_eq] at h
    obtain ⟨⟨h1, h2⟩, h3⟩ := h
    obtain ⟨k1, k2, k3⟩ := chkH_spec gs es qs h3
    refine ⟨by simp [k1], by simp [k2], fun j gj ej qj a b c => ?_⟩
    cases j with
    | zero =>
      simp at a b c
      subst a b c
      refine ⟨h2, ?_⟩
      split at h1
      · rename_i g' hg'
        simp only [Bool.and_eq_true, Bool.or_eq_true, Bool.not_eq_true', decide_eq_true_eq] at h1
        refine ⟨g', hg', h1.1.1, fun hr => ?_, h1.2⟩
        rcases h1.1.2 with h | h
        · rw [hr] at h; cases h
        · exact h
      · cases h1
    | succ j => exact k3 j gj ej qj (by simpa using a) (by simpa using b) (by simpa using c)
  | [], [], _ :: _, h => by cases h
  | [], _ :: _, _, h => by cases h
  | _ :: _, [], _, h => by cases h
  | _ :: _, _ :: _, [], h => by cases h

/-- Two ranges of the caller's memory do not meet. -/
def apartB (g g' : Reg) (q q' : Nat × Nat) : Bool := (!g.rw && !g'.rw) || q.1 != q'.1 || decide (q.2 + g.cs.length ≤ q'.2) || decide (q'.2 + g'.cs.length ≤ q.2)
def apartAll (g : Reg) (q : Nat × Nat) : List Reg → List (Nat × Nat) → Bool
  | g' :: gs, q' :: qs => apartB g g' q q' && apartAll g q gs qs
  | _, _ => true
def apartH : List Reg → List (Nat × Nat) → Bool
  | g :: gs, q :: qs => apartAll g q gs qs && apartH gs qs
  | _, _ => true
theorem apartAll_spec {g : Reg} {q : Nat × Nat} : ∀ (gs : List Reg) (qs : List (Nat × Nat)), apartAll g q gs qs = true → ∀ (j : Nat) g' q', gs[j]? = some g' → qs[j]? = some q' → apartB g g' q q' = true
  | g' :: gs, q' :: qs, h, 0, a, b, e, f => by simp at e f; subst e f; simp only [apartAll, Bool.and_eq_true] at h; exact h.1
  | g' :: gs, q' :: qs, h, j + 1, a, b, e, f => by simp only [apartAll, Bool.and_eq_true] at h; exact apartAll_spec gs qs h.2 j a b (by simpa using e) (by simpa using f)
theorem apartH_spec : ∀ (gs : List Reg) (qs : List (Nat × Nat)), apartH gs qs = true → ∀ (j j' : Nat) g g' q q', j < j' → gs[j]? = some g → gs[j']? = some g' → qs[j]? = some q → qs[j']? = some q' → apartB g g' q q' = true
  | g :: gs, q :: qs, h, 0, j' + 1, a, a', b, b', _, e, e', f, f' => by
    simp at e f; subst e f
    simp only [apartH, Bool.and_eq_true] at h
    exact apartAll_spec gs qs h.1 j' a' b' (by simpa using e') (by simpa using f')
  | g :: gs, q :: qs, h, j + 1, j' + 1, a, a', b, b', hlt, e, e', f, f' => by
    simp only [apartH, Bool.and_eq_true] at h
    exact apartH_spec gs qs h.2 j j' a a' b b' (by omega) (by simpa using e) (by simpa using e') (by simpa using f) (by simpa using f')

def Can.chk (can : Can) (m : List (Nat × Nat)) (xs : List Src) (args : List AV) (hp : List Reg) (b : Nat) : Bool :=
  instAs m xs can.args args && (xs.all fun x => match x with | .v j => decide (j < b) | .c _ => true) && xs.length == can.kinds.length && chkH m xs hp can.hp can.hpE m && apartH can.hp m && can.hp.all (fun g => g.it.isNone && g.bulk.isNone)

def Can.con (can : Can) : Con :=
  { id := can.id, n := can.outs.length
    app := fun args hp b =>
      let σ := matH hp can.hp 0 (matA ⟨[], []⟩ can.args args)
      match regsOf σ 0 can.hp.length, srcsOf σ 0 can.kinds.length with
      | some m, some xs => if can.chk m xs args hp b then
          some (xs, outH (subS can m xs b hp.length) can.hp can.hpE m hp ++ can.new.map (fun cs => ({ cs := cs.map (subS can m xs b hp.length), rw := true } : Reg)), subA can m xs b hp.length can.res) else none
      | _, _ => none }

theorem get_app {α : Type} {a b : List α} {i : Nat} {x : α} (h : (a ++ b)[i]? = some x) : (i < a.length ∧ a[i]? = some x) ∨ (a.length ≤ i ∧ b[i - a.length]? = some x) := by
  rcases Nat.lt_or_ge i a.length with h' | h'
  · rw [List.getElem?_append_left h'] at h; exact .inl ⟨h', h⟩
  · rw [List.getElem?_append_right h'] at h; exact .inr ⟨h', h⟩

section
variable {can : Can} {m : List (Nat × Nat)} {xs : List Src} {ρ outs : Env} {β nb : Base}

theorem subBase (hm : ∀ (j : Nat) q, m[j]? = some q → q.1 < β.length) (hml : m.length = can.hp.length) {r : Nat} {x : Nat × Nat} (h : (m.map (baseOf β) ++ nb)[r]? = some x) :
    (r < can.hp.length ∧ ∃ q b, m[r]? = some q ∧ β[q.1]? = some b ∧ x = (b.1, b.2 + q.2)) ∨ (¬ r < can.hp.length ∧ (β ++ nb)[β.length + (r - can.hp.length)]? = some x) := by
  rcases get_app h with ⟨h1, h2⟩ | ⟨h1, h2⟩
  · simp [hml] at h1
    rw [List.getElem?_map] at h2
    cases hq : m[r]? with
    | none => rw [hq] at h2; cases h2
    | some q =>
      rw [hq] at h2
      have hlt := hm r q hq
      refine .inl ⟨h1, q, β[q.1], rfl, List.getElem?_eq_getElem hlt, ?_⟩
      have := Option.some.inj h2
      rw [← this]
      simp [baseOf, hlt]
  · simp [hml] at h1 h2
    refine .inr ⟨by omega, ?_⟩
    rw [List.getElem?_append_right (by omega)]
    simpa using h2

theorem subS_R (hx : ∀ (i j : Nat), xs[i]? = some (.v j) → j < ρ.length) (hxl : xs.length = can.kinds.length) (hm : ∀ (j : Nat) q, m[j]? = some q → q.1 < β.length) (hml : m.length = can.hp.length) :
    ∀ (c : Sc) (v : Value), c.R (xs.map (Src.ev ρ) ++ outs) (m.map (baseOf β) ++ nb) v → (subS can m xs ρ.length β.length c).R (ρ ++ outs) (β ++ nb) v := by
  intro c
  induction c with
  | var k i =>
    intro v ⟨n, hn, hv, hf⟩
    simp only [subS]
    rcases get_app hn with ⟨h1, h2⟩ | ⟨h1, h2⟩
    · simp [hxl] at h1
      rw [if_pos h1]
      rw [List.getElem?_map] at h2
      cases hxi : xs[i]? with
      | none => rw [hxi] at h2; cases h2
      | some x =>
        rw [hxi] at h2
        have hn' := Option.some.inj h2
        cases x with
        | c a => simp only [Src.ev] at hn'; subst hn'; exact ⟨hv, hf⟩
        | v j =>
          have hj := hx i j hxi
          simp only [Src.ev] at hn'
          refine ⟨n, ?_, hv, hf⟩
          rw [List.getElem?_append_left hj, List.getElem?_eq_getElem hj]
          simp [List.getD, hj] at hn'
          rw [hn']
    · simp [hxl] at h1 h2
      rw [if_neg (by omega)]
      refine ⟨n, ?_, hv, hf⟩
      rw [List.getElem?_append_right (by omega)]
      simpa using h2
  | boolv i =>
    intro v ⟨n, hn, hv⟩
    simp only [subS]
    split
    · trivial
    · rename_i hi
      rcases get_app hn with ⟨h1, h2⟩ | ⟨h1, h2⟩
      · simp [hxl] at h1; omega
      · simp [hxl] at h1 h2
        refine ⟨n, ?_, hv⟩
        rw [List.getElem?_append_right (by omega)]
        simpa using h2
  | ptr r o =>
    intro v ⟨x, hxx, hv⟩
    simp only [subS]
    rcases subBase hm hml hxx with ⟨h1, q, b, hq, hb, rfl⟩ | ⟨h1, h2⟩
    · rw [if_pos h1, hq]
      exact ⟨b, (Ext.app β nb).get hb, by rw [hv]; simp [Nat.add_assoc]⟩
    · rw [if_neg h1]
      exact ⟨x, h2, hv⟩
  | slice r o l c =>
    intro v ⟨x, hxx, hv⟩
    simp only [subS]
    rcases subBase hm hml hxx with ⟨h1, q, b, hq, hb, rfl⟩ | ⟨h1, h2⟩
    · rw [if_pos h1, hq]
      exact ⟨b, (Ext.app β nb).get hb, by rw [hv]; simp [Nat.add_assoc]⟩
    · rw [if_neg h1]
      exact ⟨x, h2, hv⟩
  | sliceU r o l =>
    intro v ⟨x, cap, hxx, hv, hle⟩
    simp only [subS]
    rcases subBase hm hml hxx with ⟨h1, q, b, hq, hb, rfl⟩ | ⟨h1, h2⟩
    · rw [if_pos h1, hq]
      exact ⟨b, cap, (Ext.app β nb).get hb, by rw [hv]; simp [Nat.add_assoc], hle⟩
    · rw [if_neg h1]
      exact ⟨x, cap, h2, hv, hle⟩
  | sliceV i =>
    intro v ⟨n, p, cap, hn, hv⟩
    simp only [subS]
    rcases get_app hn with ⟨h1, h2⟩ | ⟨h1, h2⟩
    · simp [hxl] at h1
      rw [if_pos h1]
      rw [List.getElem?_map] at h2
      cases hxi : xs[i]? with
      | none => trivial
      | some x =>
        rw [hxi] at h2
        have hn' := Option.some.inj h2
        cases x with
        | c a => trivial
        | v j =>
          have hj := hx i j hxi
          simp only [Src.ev] at hn'
          refine ⟨n, p, cap, ?_, hv⟩
          rw [List.getElem?_append_left hj, List.getElem?_eq_getElem hj]
          simp [List.getD, hj] at hn'
          rw [hn']
    · simp [hxl] at h1 h2
      rw [if_neg (by omega)]
      refine ⟨n, p, cap, ?_, hv⟩
      rw [List.getElem?_append_right (by omega)]
      simpa using h2
  | iface t c ih => intro v ⟨u, hv, hu⟩; exact ⟨u, hv, ih u hu⟩
  | sliceC r o l i =>
    intro v ⟨x, n, hxx, hn, hv, hle, hf⟩
    simp only [subS]
    obtain ⟨r', o', hrr, bb, hbb, hv2⟩ : ∃ r' o', subReg can m β.length r o = some (r', o') ∧ ∃ bb, (β ++ nb)[r']? = some bb ∧ v = .slice (some ⟨bb.1, bb.2 + o', none⟩) l n := by
      rcases subBase hm hml hxx with ⟨h1, q, b, hq, hb, rfl⟩ | ⟨h1, h2⟩
      · refine ⟨q.1, q.2 + o, by simp only [subReg, if_pos h1, hq], b, (Ext.app β nb).get hb, ?_⟩
        rw [hv]; simp [Nat.add_assoc]
      · exact ⟨β.length + (r - can.hp.length), o, by simp only [subReg, if_neg h1], x, h2, hv⟩
    rw [hrr]
    simp only
    rcases get_app hn with ⟨h1, h2⟩ | ⟨h1, h2⟩
    · simp [hxl] at h1
      rw [if_pos h1]
      rw [List.getElem?_map] at h2
      cases hxi : xs[i]? with
      | none => rw [hxi] at h2; cases h2
      | some y =>
        rw [hxi] at h2
        have hn' := Option.some.inj h2
        cases y with
        | c a =>
          simp only [Src.ev] at hn'
          refine ⟨bb, hbb, ?_⟩
          rw [hv2, hn']
          simp
        | v j =>
          have hj := hx i j hxi
          simp only [Src.ev] at hn'
          refine ⟨bb, n, hbb, ?_, hv2, hle, hf⟩
          rw [List.getElem?_append_left hj, List.getElem?_eq_getElem hj]
          simp [List.getD, hj] at hn'
          rw [hn']
    · simp [hxl] at h1 h2
      rw [if_neg (by omega)]
      refine ⟨bb, n, hbb, ?_, hv2, hle, hf⟩
      rw [List.getElem?_append_right (by omega)]
      simpa using h2
  | sliceW r o l lo hi => intro v h; trivial
  | sliceN r i => intro v h; trivial
  | _ => intro v h; exact h

theorem sub1_R (hx : ∀ (i j : Nat), xs[i]? = some (.v j) → j < ρ.length) (hxl : xs.length = can.kinds.length) (hm : ∀ (j : Nat) q, m[j]? = some q → q.1 < β.length) (hml : m.length = can.hp.length)
    (c : A1) (v : Value) (h : c.R (xs.map (Src.ev ρ) ++ outs) (m.map (baseOf β) ++ nb) v) : (sub1 can m xs ρ.length β.length c).R (ρ ++ outs) (β ++ nb) v := by
  cases c with
  | s c => exact subS_R hx hxl hm hml c v h
  | g cs =>
    obtain ⟨us, hv, h⟩ := h
    refine ⟨us, hv, ?_⟩
    generalize cs = l at h
    induction l generalizing us v with
    | nil => cases us <;> exact h
    | cons c l ih =>
      cases us with
      | nil => exact h.elim
      | cons u us => exact ⟨subS_R hx hxl hm hml c u h.1, ih _ us rfl h.2⟩

theorem subA_R (hx : ∀ (i j : Nat), xs[i]? = some (.v j) → j < ρ.length) (hxl : xs.length = can.kinds.length) (hm : ∀ (j : Nat) q, m[j]? = some q → q.1 < β.length) (hml : m.length = can.hp.length)
    (c : AV) (v : Value) (h : c.R (xs.map (Src.ev ρ) ++ outs) (m.map (baseOf β) ++ nb) v) : (subA can m xs ρ.length β.length c).R (ρ ++ outs) (β ++ nb) v := by
  cases c with
  | one a => exact sub1_R hx hxl hm hml a v h
  | tup vs =>
    obtain ⟨us, hv, h⟩ := h
    refine ⟨us, hv, ?_⟩
    generalize vs = l at h
    induction l generalizing us v with
    | nil => cases us <;> exact h
    | cons c l ih =>
      cases us with
      | nil => exact h.elim
      | cons u us => exact ⟨sub1_R hx hxl hm hml c u h.1, ih _ us rfl h.2⟩

theorem Keep.trans' {S S' : Nat → Nat → Prop} {a b c : World} (h : Keep S a b) (k : Keep S' b c) (hs : ∀ x i, x < a.heap.size → S' x i → S x i) : Keep S a c :=
  ⟨k.os.trans h.os, k.tape.trans h.tape, k.output.trans h.output, Nat.le_trans h.size k.size, fun i o e => by
    obtain ⟨o', e', h'⟩ := h.obj i o e
    obtain ⟨o'', e'', h''⟩ := k.obj i o' e'
    exact ⟨o'', e'', h'.trans (h''.mono fun j => hs i j (Array.getElem?_eq_some_iff.1 e).1)⟩⟩

/-- A question over the same state: its relation's answer. -/
def Can.askc (can : Can) (id : Nat) : Con := { id := id, n := 1, app := can.con.app, ask := true }
theorem ask_ok {P : Program} {rels : Nat → RelSpec} {f : FuncId} {can : Can} {id : Nat} (h : ∀ i, ∃ o : Int, (rels id).post i [o]) : ConOk P rels f (can.askc id) := ⟨fun _ => h, fun h => Bool.noConfusion h⟩

theorem con_of_can {P : Program} {rels : Nat → RelSpec} {f : FuncId} (h : CanOk P rels f can) : ConOk P rels f can.con := by
  refine ⟨fun h => Bool.noConfusion h, fun _ => ?_⟩
  intro S0 w0 ρ β hp w avs vals xs hp' av hM hargs happ hpre
  simp only [Can.con] at happ hpre
  split at happ
  · rename_i m xs' hm hxs
    split at happ
    · rename_i hchk
      simp only [Option.some.injEq, Prod.mk.injEq] at happ
      obtain ⟨rfl, rfl, rfl⟩ := happ
      simp only [Can.chk, Bool.and_eq_true, beq_iff_eq, List.all_eq_true] at hchk
      obtain ⟨⟨⟨⟨⟨hA, hxs0⟩, hxl⟩, hH⟩, hap⟩, hnit⟩ := hchk
      obtain ⟨hel, hml, hHs⟩ := chkH_spec _ _ _ hH
      have hx : ∀ (i j : Nat), xs'[i]? = some (.v j) → j < ρ.length := fun i j e => by
        have := hxs0 _ (List.mem_of_getElem? e)
        simpa using this
      have getE : ∀ (j : Nat) g, can.hp[j]? = some g → ∃ e q, can.hpE[j]? = some e ∧ m[j]? = some q := fun j g e => by
        have := lt_of_some e
        exact ⟨_, _, List.getElem?_eq_getElem (by omega), List.getElem?_eq_getElem (by omega)⟩
      have hmq : ∀ (j : Nat) q, m[j]? = some q → q.1 < β.length := fun j q e => by
        have hj := lt_of_some e
        obtain ⟨_, g', hg', _⟩ := hHs j _ _ q (List.getElem?_eq_getElem (show j < can.hp.length by omega)) (List.getElem?_eq_getElem (show j < can.hpE.length by omega)) e
        rw [← hM.len]
        exact lt_of_some hg'
      -- the base of a canonical region
      have base : ∀ (j : Nat) (x : Nat × Nat), (m.map (baseOf β))[j]? = some x → ∃ q b, m[j]? = some q ∧ β[q.1]? = some b ∧ x = (b.1, b.2 + q.2) := fun j x e => by
        rw [List.getElem?_map] at e
        cases hq : m[j]? with
        | none => rw [hq] at e; cases e
        | some q =>
          rw [hq] at e
          have hlt := hmq j q hq
          refine ⟨q, β[q.1], rfl, List.getElem?_eq_getElem hlt, ?_⟩
          rw [← Option.some.inj e]
          simp [baseOf, hlt]
      have memC : Mem (canOld (m.map (baseOf β)) can.hp) (xs'.map (Src.ev ρ)) (m.map (baseOf β)) can.hp w w := by
        refine ⟨by simp [hml], ?_, ?_, ?_, ?_, Keep.refl _ _, ?_, fun j g x s p hg _ hit => ?_, fun j j' g g' x x' hg _ _ _ hit _ => ?_, fun j g x i hg _ hb => ?_⟩
        · intro j g x hg hxj i c hc
          obtain ⟨q, b, hq, hb, rfl⟩ := base j x hxj
          obtain ⟨e, q', he, hq'⟩ := getE j g hg
          obtain rfl : q' = q := by rw [hq] at hq'; exact (Option.some.inj hq').symm
          obtain ⟨_, g', hg', hins, _⟩ := hHs j g e q' hg he hq
          obtain ⟨s, hs, hi⟩ := instL_get _ _ hins i c hc
          have hs' : g'.cs[q'.2 + i]? = some s := by
            rw [List.getElem?_take] at hs
            split at hs
            · rw [List.getElem?_drop] at hs; exact hs
            · cases hs
          obtain ⟨v, h1, h2⟩ := hM.cell q'.1 g' b hg' hb _ s hs'
          exact ⟨v, by simpa [Nat.add_assoc] using h1, instS_R c s v hi h2⟩
        · intro j g x hg hxj hrw i hi
          obtain ⟨q, b, hq, hb, rfl⟩ := base j x hxj
          obtain ⟨e, q', he, hq'⟩ := getE j g hg
          obtain rfl : q' = q := by rw [hq] at hq'; exact (Option.some.inj hq').symm
          obtain ⟨_, g', hg', hins, hrw', _⟩ := hHs j g e q' hg he hq
          have hl := instL_length _ _ hins
          simp at hl
          have := hM.free q'.1 g' b hg' hb (hrw' hrw) (q'.2 + i) (by omega)
          simpa [Nat.add_assoc] using this
        · intro j j' g g' x x' hg hg' hxj hxj' hne hor i i' hi hi' ⟨k1, k2⟩
          obtain ⟨q, b, hq, hb, rfl⟩ := base j x hxj
          obtain ⟨q', b', hq', hb', rfl⟩ := base j' x' hxj'
          obtain ⟨e, q1, he, hq1⟩ := getE j g hg
          obtain rfl : q1 = q := by rw [hq] at hq1; exact (Option.some.inj hq1).symm
          obtain ⟨e', q1', he', hq1'⟩ := getE j' g' hg'
          obtain rfl : q1' = q' := by rw [hq'] at hq1'; exact (Option.some.inj hq1').symm
          obtain ⟨_, G, hG, hins, hGw, _⟩ := hHs j g e q1 hg he hq
          obtain ⟨_, G', hG', hins', hGw', _⟩ := hHs j' g' e' q1' hg' he' hq'
          have hl := instL_length _ _ hins
          have hl' := instL_length _ _ hins'
          simp at hl hl' k1 k2
          by_cases hqq : q1.1 = q1'.1
          · rw [hqq] at hb
            obtain rfl : b = b' := by rw [hb] at hb'; exact Option.some.inj hb'
            rcases Nat.lt_or_gt_of_ne hne with hlt | hgt
            · have := apartH_spec _ _ hap j j' g g' q1 q1' hlt hg hg' hq hq'
              simp only [apartB, Bool.or_eq_true, Bool.and_eq_true, Bool.not_eq_true', bne_iff_ne, ne_eq, decide_eq_true_eq] at this
              rcases hor with h | h <;> simp only [h, Bool.true_eq_false, false_and, and_false, false_or] at this <;> omega
            · have := apartH_spec _ _ hap j' j g' g q1' q1 hgt hg' hg hq' hq
              simp only [apartB, Bool.or_eq_true, Bool.and_eq_true, Bool.not_eq_true', bne_iff_ne, ne_eq, decide_eq_true_eq] at this
              rcases hor with h | h <;> simp only [h, Bool.true_eq_false, false_and, and_false, false_or] at this <;> omega
          · exact hM.disj q1.1 q1'.1 G G' b b' hG hG' hb hb' hqq (hor.imp hGw hGw') (q1.2 + i) (q1'.2 + i') (by omega) (by omega) ⟨k1, by omega⟩
        · intro j g x hg hxj hrw _ i hi
          exact ⟨j, g, x, hg, hxj, hrw, rfl, by omega, by omega⟩
        · intro j g x _ hxj hn _
          have h1 := lt_of_some hxj
          simp [hml] at h1
          simp [canOld] at hn
          omega
        · have := hnit g (List.mem_of_getElem? hg)
          rw [hit] at this
          cases this.1
        · have := hnit g (List.mem_of_getElem? hg)
          cases hgi : g.it with
          | none => rw [hgi] at hit; cases hit
          | some q => rw [hgi] at this; cases this.1
        · have := hnit g (List.mem_of_getElem? hg)
          rw [hb] at this
          cases this.2
      have hargsC := instAs_R can.args avs vals hA hargs
      refine (h w _ _ vals memC (by simp [hxl]) hargsC hpre).mono fun e w' he => ?_
      obtain ⟨v, outs, nb, rfl, hpo⟩ := he
      refine ⟨v, outs, β ++ nb, rfl, hpo.len, hpo.post, Ext.app _ _, ?_, ?_⟩
      · rw [hM.len]
        exact subA_R hx hxl hmq hml _ _ hpo.res
      · -- the memory behind the call
        have outside : ∀ (r : Nat) (g : Reg) (x : Nat × Nat), hp[r]? = some g → β[r]? = some x → ∀ i, i < g.cs.length → x.1 < w.heap.size := fun r g x e ex i hi => by
          obtain ⟨u, hu, _⟩ := hM.cell r g x e ex i _ (List.getElem?_eq_getElem hi)
          exact World.block_lt_of_cell? (w := w) (a := ⟨x.1, x.2 + i, none⟩) hu
        have inβ : ∀ (r : Nat) (g : Reg) (x : Nat × Nat), hp[r]? = some g → (β ++ nb)[r]? = some x → β[r]? = some x := fun r g x e ex => by
          rcases get_app ex with ⟨_, h⟩ | ⟨h, _⟩
          · exact h
          · have := lt_of_some e; rw [hM.len] at this; omega
        have hsb : ∀ c v, c.R (xs'.map (Src.ev ρ) ++ outs) (m.map (baseOf β) ++ nb) v → (subS can m xs' ρ.length hp.length c).R (ρ ++ outs) (β ++ nb) v := by
          rw [hM.len]
          exact fun c v => subS_R hx hxl hmq hml c v
        generalize subS can m xs' ρ.length hp.length = sb at *
        have c0 : CellsOk (canOld (m.map (baseOf β)) can.hp).S (ρ ++ outs) (β ++ nb) hp w' := by
          intro r g x e ex i c hc hT
          have ex' := inβ r g x e ex
          obtain ⟨u, hu, hR⟩ := hM.cell r g x e ex' i c hc
          refine ⟨u, ?_, Sc.R_mono (Ext.app _ _) (Ext.app _ _) c u hR⟩
          rw [hpo.keep.cell (outside r g x e ex' i (lt_of_some hc)) hT]
          exact hu
        have d0 : Disj (β ++ nb) hp := by
          intro r r' g g' x x' e e' ex ex' hne hor i j hi hj
          exact hM.disj r r' g g' x x' e e' (inβ r g x e ex) (inβ r' g' x' e' ex') hne hor i j hi hj
        obtain ⟨s1, c1⟩ := outH_ok (sub := sb) can.hp can.hpE m hp _ c0 d0 hel hml (fun j g e q a b c => by
          obtain ⟨k1, g', k2, k3, k4, k5⟩ := hHs j g e q a b c
          have hlt := hmq j q c
          refine ⟨k1, g', k2, k5, k4, β[q.1], (Ext.app β nb).get (List.getElem?_eq_getElem hlt), fun hrw i d hd => ?_⟩
          have hbx : (m.map (baseOf β))[j]? = some (β[q.1].1, β[q.1].2 + q.2) := by simp [c, baseOf, hlt]
          obtain ⟨u, hu, hR⟩ := hpo.old j e _ b hbx i d hd
          exact ⟨u, hu, hsb d u hR⟩)
        have full : CellsOk (fun _ _ => False) (ρ ++ outs) (β ++ nb) (outH (sb) can.hp can.hpE m hp) w' := by
          intro r g x e ex i c hc _
          refine c1 r g x e ex i c hc fun ⟨hT, hno⟩ => ?_
          obtain ⟨j, gj, xj, k1, k2, k3, k4, k5, k6⟩ := hT
          obtain ⟨q, b, hq, hb, rfl⟩ := base j xj k2
          exact hno j gj q k1 hq k3 ⟨b, (Ext.app β nb).get hb, k4, k5, k6⟩
        have lenO := s1.1
        have newR : ∀ (r : Nat) (g : Reg) (x : Nat × Nat), (outH (sb) can.hp can.hpE m hp ++ can.new.map (fun cs => ({ cs := cs.map (sb), rw := true } : Reg)))[r]? = some g → (β ++ nb)[r]? = some x →
            ((outH (sb) can.hp can.hpE m hp)[r]? = some g ∧ β[r]? = some x) ∨ (∃ k e, r = β.length + k ∧ can.new[k]? = some e ∧ nb[k]? = some x ∧ g = { cs := e.map (sb), rw := true }) := by
          intro r g x e ex
          rcases get_app e with ⟨h1, h2⟩ | ⟨h1, h2⟩
          · refine .inl ⟨h2, ?_⟩
            rcases get_app ex with ⟨_, h⟩ | ⟨h, _⟩
            · exact h
            · rw [lenO, hM.len] at h1; omega
          · rw [lenO, hM.len] at h1 h2
            rw [List.getElem?_append_right h1] at ex
            rw [List.getElem?_map] at h2
            cases hk : can.new[r - β.length]? with
            | none => rw [hk] at h2; cases h2
            | some e0 =>
              rw [hk] at h2
              exact .inr ⟨r - β.length, e0, by omega, hk, ex, (Option.some.inj h2).symm⟩
        have oldG : ∀ (r : Nat) (g : Reg), (outH (sb) can.hp can.hpE m hp)[r]? = some g → ∃ g0, hp[r]? = some g0 ∧ g.rw = g0.rw ∧ g.cs.length = g0.cs.length := fun r g e => by obtain ⟨g0, a, b, c⟩ := s1.2 r g e; exact ⟨g0, a, b, c.1⟩
        refine ⟨?_, ?_, ?_, ?_, ?_, ?_, ?_, ?_, ?_, ?_⟩
        · simp [lenO, hM.len, hpo.nbl]
        · intro r g x e ex i c hc
          rcases newR r g x e ex with ⟨h1, h2⟩ | ⟨k, e0, rfl, h1, h2, rfl⟩
          · exact full r g x h1 ex i c hc (fun h => h)
          · simp only at hc
            rw [List.getElem?_map] at hc
            cases hd : e0[i]? with
            | none => rw [hd] at hc; cases hc
            | some d =>
              rw [hd] at hc
              obtain rfl := Option.some.inj hc
              obtain ⟨u, hu, hR⟩ := ((hpo.new k e0 x h1 h2).2 i d hd).1
              exact ⟨u, hu, hsb d u hR⟩
        · intro r g x e ex hrw i hi
          rcases newR r g x e ex with ⟨h1, h2⟩ | ⟨k, e0, rfl, h1, h2, rfl⟩
          · obtain ⟨g0, k1, k2, k3⟩ := oldG r g h1
            rw [hpo.keep.frozen (outside r g0 x k1 h2 i (by omega))]
            exact hM.free r g0 x k1 h2 (k2 ▸ hrw) i (by omega)
          · simp at hi
            exact ((hpo.new k e0 x h1 h2).2 i _ (List.getElem?_eq_getElem hi)).2
        · intro r r' g g' x x' e e' ex ex' hne hor i j hi hj
          rcases newR r g x e ex with ⟨h1, h2⟩ | ⟨k, e0, rfl, h1, h2, rfl⟩ <;> rcases newR r' g' x' e' ex' with ⟨h1', h2'⟩ | ⟨k', e0', rfl, h1', h2', rfl⟩
          · exact (d0.shape s1) r r' g g' x x' h1 h1' ex ex' hne hor i j hi hj
          · obtain ⟨g0, k1, k2, k3⟩ := oldG r g h1
            have b1 := outside r g0 x k1 h2 i (by omega)
            have b2 := (hpo.new k' e0' x' h1' h2').1
            omega
          · obtain ⟨g0, k1, k2, k3⟩ := oldG r' g' h1'
            have b1 := outside r' g0 x' k1 h2' j (by omega)
            have b2 := (hpo.new k e0 x h1 h2).1
            omega
          · simp at hi hj
            exact hpo.dis k k' e0 e0' x x' h1 h1' h2 h2' (fun e => hne (by rw [e])) i j hi hj
        · intro r g x e ex hrw hb i hi
          rcases newR r g x e ex with ⟨h1, h2⟩ | ⟨k, e0, rfl, h1, h2, rfl⟩
          · obtain ⟨g0, k1, k2, k3⟩ := oldG r g h1
            exact hM.wr r g0 x k1 h2 (k2 ▸ hrw) hb i (by omega)
          · have b2 := (hpo.new k e0 x h1 h2).1
            have := hM.keep.size
            omega
        · refine hM.keep.trans' hpo.keep fun b i hb hS => ?_
          obtain ⟨j, gj, xj, k1, k2, k3, k4, k5, k6⟩ := hS
          obtain ⟨q, bq, hq, hbq, rfl⟩ := base j xj k2
          obtain ⟨e, q', he, hq'⟩ := getE j gj k1
          obtain rfl : q' = q := by rw [hq] at hq'; exact (Option.some.inj hq').symm
          obtain ⟨_, g', hg', _, hrw', hle⟩ := hHs j gj e q' k1 he hq
          have := hM.wr q'.1 g' bq hg' hbq (hrw' k3) (by omega) (i - bq.2) (by omega)
          rw [k4, show bq.2 + (i - bq.2) = i by omega] at *
          exact this
        · intro r g x e ex hn hw
          rcases newR r g x e ex with ⟨h1, h2⟩ | ⟨k, e0, rfl, h1, h2, rfl⟩
          · obtain ⟨g0, k1, k2, k3⟩ := oldG r g h1
            exact hM.new r g0 x k1 h2 hn (k2 ▸ hw)
          · exact Nat.le_trans hM.keep.size (hpo.new k e0 x h1 h2).1
        · intro r g x s p e ex hit
          rcases newR r g x e ex with ⟨h1, h2⟩ | ⟨k, e0, rfl, h1, h2, rfl⟩
          · obtain ⟨g0, k1, k2, k3⟩ := s1.2 r g h1
            have hi := hM.iter r g0 x s p k1 h2 (k3.2.1 ▸ hit)
            obtain ⟨o', ho', hk'⟩ := hpo.keep.obj x.1 _ hi.1
            cases hk'
            exact ⟨ho', hi.2⟩
          · cases hit
        · intro r r' g g' x x' e e' ex ex' hi hi' hne
          rcases newR r g x e ex with ⟨h1, h2⟩ | ⟨k, e0, rfl, h1, h2, rfl⟩
          · rcases newR r' g' x' e' ex' with ⟨h1', h2'⟩ | ⟨k', e0', rfl, h1', h2', rfl⟩
            · obtain ⟨g0, k1, k2, k3⟩ := s1.2 r g h1
              obtain ⟨g0', k1', k2', k3'⟩ := s1.2 r' g' h1'
              exact hM.itd r r' g0 g0' x x' k1 k1' h2 h2' (k3.2.1 ▸ hi) (k3'.2.1 ▸ hi') hne
            · cases hi'
          · cases hi
        · intro r g x i e ex hb
          rcases newR r g x e ex with ⟨h1, h2⟩ | ⟨k, e0, rfl, h1, h2, rfl⟩
          · obtain ⟨g0, k1, k2, k3⟩ := s1.2 r g h1
            obtain ⟨n, hn, hall⟩ := hM.bulk r g0 x i k1 h2 (k3.2.2 ▸ hb)
            exact ⟨n, (Ext.app _ _).get hn, hall⟩
          · cases hb
    · cases happ
  · cases happ
end
end Go.Sx

/- From a run of the executor to a contract. -/
namespace Go.Sx
open Go

def inst1 (m : List (Nat × Nat)) (xs : List Src) : A1 → A1 → Bool
  | .s c, .s s => instS m xs c s
  | .g cs, .g ss => instL m xs cs ss
  | _, _ => false
theorem inst1_R {m : List (Nat × Nat)} {xs : List Src} {ρ : Env} {β : Base} {c s : A1} {v : Value} (h : inst1 m xs c s = true) (hR : s.R ρ β v) : c.R (xs.map (Src.ev ρ)) (m.map (baseOf β)) v := by
  unfold inst1 at h
  split at h
  · exact instS_R _ _ _ h hR
  · obtain ⟨us, rfl, h2⟩ := hR
    exact ⟨us, rfl, instL_R _ _ _ h h2⟩
  · cases h
def inst1s (m : List (Nat × Nat)) (xs : List Src) : List A1 → List A1 → Bool
  | [], [] => true
  | c :: cs, s :: ss => inst1 m xs c s && inst1s m xs cs ss
  | _, _ => false
theorem inst1s_R {m : List (Nat × Nat)} {xs : List Src} {ρ : Env} {β : Base} : ∀ (cs ss : List A1) (vs : List Value), inst1s m xs cs ss = true → All2 (A1.R ρ β) ss vs → All2 (A1.R (xs.map (Src.ev ρ)) (m.map (baseOf β))) cs vs
  | [], [], [], _, _ => trivial
  | c :: cs, s :: ss, v :: vs, h, hR => by
    simp only [inst1s, Bool.and_eq_true] at h
    exact ⟨inst1_R h.1 hR.1, inst1s_R cs ss vs h.2 hR.2⟩
def instV (m : List (Nat × Nat)) (xs : List Src) : AV → AV → Bool
  | .one c, .one s => inst1 m xs c s
  | .tup cs, .tup ss => inst1s m xs cs ss
  | _, _ => false
theorem instV_R {m : List (Nat × Nat)} {xs : List Src} {ρ : Env} {β : Base} {c s : AV} {v : Value} (h : instV m xs c s = true) (hR : s.R ρ β v) : c.R (xs.map (Src.ev ρ)) (m.map (baseOf β)) v := by
  unfold instV at h
  split at h
  · exact inst1_R h hR
  · obtain ⟨us, rfl, h2⟩ := hR
    exact ⟨us, rfl, inst1s_R _ _ _ h h2⟩
  · cases h

def mat1 (σ : Sub) : A1 → A1 → Sub
  | .s c, .s s => matS σ c s
  | .g c, .g s => matL σ c s
  | _, _ => σ
def mat1s (σ : Sub) : List A1 → List A1 → Sub
  | c :: cs, s :: ss => mat1s (mat1 σ c s) cs ss
  | _, _ => σ
def matV (σ : Sub) : AV → AV → Sub
  | .one c, .one s => mat1 σ c s
  | .tup cs, .tup ss => mat1s σ cs ss
  | _, _ => σ
def matE (σ : Sub) : List (List Sc) → List Reg → Sub
  | e :: es, g :: gs => matE (matL σ e g.cs) es gs
  | _, _ => σ
def matN (hp : List Reg) : List (List Sc) → Nat → Sub → Sub
  | [], _, σ => σ
  | e :: es, j, σ => match lookA σ.m j with
    | some (r, _) => match hp[r]? with
      | some g => matN hp es (j + 1) (matL σ e g.cs)
      | none => σ
    | none => σ

def idRegs (n : Nat) : List (Nat × Nat) := (List.range n).map fun j => (j, 0)
def idSrcs (n : Nat) : List Src := (List.range n).map Src.v

def endE (m : List (Nat × Nat)) (xs : List Src) : List (List Sc) → List Reg → Bool
  | [], _ => true
  | e :: es, g :: gs => instL m xs e g.cs && endE m xs es gs
  | _, _ => false
theorem endE_spec {m : List (Nat × Nat)} {xs : List Src} : ∀ (es : List (List Sc)) (gs : List Reg), endE m xs es gs = true → ∀ (j : Nat) e, es[j]? = some e → ∃ g, gs[j]? = some g ∧ instL m xs e g.cs = true
  | e :: es, g :: gs, h, 0, x, k => by simp at k; subst k; simp only [endE, Bool.and_eq_true] at h; exact ⟨g, rfl, h.1⟩
  | e :: es, g :: gs, h, j + 1, x, k => by simp only [endE, Bool.and_eq_true] at h; simpa using endE_spec es gs h.2 j x (by simpa using k)
  | [], _, _, j, x, k => by simp at k
def endN (m : List (Nat × Nat)) (xs : List Src) (hp : List Reg) (n : Nat) : List (List Sc) → List (Nat × Nat) → Bool
  | [], [] => true
  | e :: es, q :: qs => (match hp[q.1]? with
      | some g => instL m xs e (g.cs.take e.length) && g.rw
      | none => false) && decide (n ≤ q.1) && q.2 == 0 && !(qs.any fun q' => q'.1 == q.1) && endN m xs hp n es qs
  | _, _ => false
theorem endN_spec {m : List (Nat × Nat)} {xs : List Src} {hp : List Reg} {n : Nat} : ∀ (es : List (List Sc)) (qs : List (Nat × Nat)), endN m xs hp n es qs = true → es.length = qs.length ∧ (∀ (k : Nat) e q, es[k]? = some e → qs[k]? = some q →
      ∃ g, hp[q.1]? = some g ∧ instL m xs e (g.cs.take e.length) = true ∧ g.rw = true ∧ n ≤ q.1 ∧ q.2 = 0) ∧ ∀ (k k' : Nat) q q', k < k' → qs[k]? = some q → qs[k']? = some q' → q.1 ≠ q'.1
  | [], [], _ => ⟨rfl, fun k e q h => by simp at h, fun k k' q q' _ h => by simp at h⟩
  | e :: es, q :: qs, h => by
    simp only [endN, Bool.and_eq_true, decide_eq_true_eq, beq_iff_eq, Bool.not_eq_true'] at h
    obtain ⟨⟨⟨⟨h1, h2⟩, h3⟩, h4⟩, h5⟩ := h
    obtain ⟨k1, k2, k3⟩ := endN_spec es qs h5
    refine ⟨by simp [k1], fun k ek qk a b => ?_, fun k k' qk qk' hlt a b => ?_⟩
    · cases k with
      | zero =>
        simp at a b
        subst a b
        split at h1
        · rename_i g hg
          simp only [Bool.and_eq_true] at h1
          exact ⟨g, hg, h1.1, h1.2, h2, h3⟩
        · cases h1
      | succ k => exact k2 k ek qk (by simpa using a) (by simpa using b)
    · cases k with
      | zero =>
        simp at a
        subst a
        cases k' with
        | zero => omega
        | succ k' =>
          have hm := List.mem_of_getElem? (show qs[k']? = some qk' by simpa using b)
          intro he
          have : (qs.any fun q' => q'.1 == q.1) = true := List.any_eq_true.2 ⟨qk', hm, by simp [he]⟩
          rw [h4] at this
          cases this
      | succ k =>
        cases k' with
        | zero => omega
        | succ k' => exact k3 k k' qk qk' (by omega) (by simpa using a) (by simpa using b)
  | [], _ :: _, h => by cases h
  | _ :: _, [], h => by cases h

/-- What a run must end in; the results' sources. -/
def Can.fin (can : Can) (av : AV) (hp : List Reg) : Option (List Src) :=
  let n := can.kinds.length
  let σ0 : Sub := ⟨(List.range can.hp.length).map fun j => (j, (j, 0)), (List.range n).map fun i => (i, .v i)⟩
  let σ := matN hp can.new can.hp.length (matE (matV σ0 can.res av) can.hpE hp)
  match srcsOf σ n can.outs.length, regsOf σ can.hp.length can.new.length with
  | some os, some nm =>
    let m := idRegs can.hp.length ++ nm
    let xs := idSrcs n ++ os
    if instV m xs can.res av && endE m xs can.hpE hp && endN m xs hp can.hp.length can.new nm then some os else none
  | _, _ => none

def Can.endQ (can : Can) (rels : Nat → RelSpec) (ρ0 : Env) (ρ : Env) (av : AV) (hp : List Reg) : Prop :=
  match can.fin av hp with
  | some os => (rels can.id).post ρ0 (os.map (Src.ev ρ))
  | none => False

def isVarS (k : IntKind) (i : Nat) : Sc → Bool
  | .var k' j => k == k' && i == j
  | .sliceV j => k == .i64 && i == j
  | .sliceC _ _ _ j => k == .i64 && i == j
  | .sliceN _ j => k == .i64 && i == j
  | _ => false
def isVarA (k : IntKind) (i : Nat) : AV → Bool
  | .one (.s c) => isVarS k i c
  | .one (.g cs) => cs.any (isVarS k i)
  | .tup _ => false
/-- Each input occurs, with its kind. -/
def Can.occ (can : Can) : Bool := (List.range can.kinds.length).all fun i => match can.kinds[i]? with
  | some k => can.args.any (isVarA k i) || can.hp.any fun g => g.cs.any (isVarS k i)
  | none => false

theorem isVarS_fits {ρ : Env} {β : Base} {k : IntKind} {i : Nat} {c : Sc} {v : Value} (h : isVarS k i c = true) (hR : c.R ρ β v) : ∃ n, ρ[i]? = some n ∧ Fits k n := by
  cases c <;> simp [isVarS] at h
  · obtain ⟨rfl, rfl⟩ := h
    obtain ⟨n, h1, _, h2⟩ := hR
    exact ⟨n, h1, h2⟩
  · obtain ⟨rfl, rfl⟩ := h
    obtain ⟨n, _, _, h1, _, h2⟩ := hR
    exact ⟨n, h1, h2⟩
  · obtain ⟨rfl, rfl⟩ := h
    obtain ⟨_, n, _, h1, _, _, h2⟩ := hR
    exact ⟨n, h1, h2⟩
  · obtain ⟨rfl, rfl⟩ := h
    obtain ⟨_, n, _, _, _, h1, _, _, h2⟩ := hR
    exact ⟨n, h1, h2⟩

theorem srcsSlow_length {σ : Sub} : ∀ (n j : Nat) (l : List Src), srcsSlow σ j n = some l → l.length = n
  | 0, j, l, h => by simp [srcsSlow] at h; simp [← h]
  | n + 1, j, l, h => by
    simp only [srcsSlow] at h
    split at h
    · rename_i q l' _ hl
      obtain rfl := Option.some.inj h
      simp [srcsSlow_length n (j + 1) l' hl]
    · cases h
theorem srcsLin_length : ∀ (v : List (Nat × Src)) (j n : Nat) (l : List Src), srcsLin v j n = some l → l.length = n
  | v, j, 0, l, h => by
    have : some ([] : List Src) = some l := by cases v <;> simpa [srcsLin] using h
    obtain rfl := Option.some.inj this
    rfl
  | [], j, n + 1, l, h => by simp [srcsLin] at h
  | (k, x) :: v, j, n + 1, l, h => by
    simp only [srcsLin] at h
    split at h
    · split at h
      · rename_i r hr
        obtain rfl := Option.some.inj h
        simp [srcsLin_length v (j + 1) n r hr]
      · cases h
    · split at h
      · exact srcsLin_length v j (n + 1) l h
      · cases h
theorem srcsOf_length {σ : Sub} (n j : Nat) (l : List Src) (h : srcsOf σ j n = some l) : l.length = n := by
  unfold srcsOf at h
  split at h
  · rename_i r hr
    obtain rfl := Option.some.inj h
    exact srcsLin_length _ j n _ hr
  · exact srcsSlow_length n j l h

theorem map_ids {ρ0 ρ : Env} (h : Ext ρ0 ρ) : (idSrcs ρ0.length).map (Src.ev ρ) = ρ0 := by
  apply List.ext_getElem?
  intro i
  simp only [idSrcs, List.map_map, List.getElem?_map, List.getElem?_range]
  by_cases hi : i < ρ0.length
  · simp [hi, Src.ev, Function.comp]
    have := h.get (List.getElem?_eq_getElem hi)
    simp [this]
  · simp [hi, List.getElem?_eq_none (Nat.le_of_not_lt hi)]
theorem map_regs {β0 β : Base} (h : Ext β0 β) : (idRegs β0.length).map (baseOf β) = β0 := by
  apply List.ext_getElem?
  intro i
  simp only [idRegs, List.map_map, List.getElem?_map, List.getElem?_range]
  by_cases hi : i < β0.length
  · simp [hi, Function.comp, baseOf]
    have := h.get (List.getElem?_eq_getElem hi)
    simp [this]
  · simp [hi, List.getElem?_eq_none (Nat.le_of_not_lt hi)]

/-- What the calls over the canonical state end in gives the contract. -/
theorem can_of_calls {P : Program} {rels : Nat → RelSpec} {f : FuncId} {can : Can} (hocc : can.occ = true)
    (h : ∀ (w : World) (ρ : Env) (β : Base) (vals : List Value), Mem (canOld β can.hp) ρ β can.hp w w → ρ.length = can.kinds.length → All2 (AV.R ρ β) can.args vals → (rels can.id).pre ρ → All2 Fits can.kinds ρ →
      Calls P f vals.toArray w fun e w' => ∃ v ρ' β' av hp', e = .returned v ∧ Ext ρ ρ' ∧ Ext β β' ∧ av.R ρ' β' v ∧ Mem (canOld β can.hp) ρ' β' hp' w w' ∧ can.endQ rels ρ ρ' av hp') : CanOk P rels f can := by
  intro w ρ β vals hM hlen hargs hpre
  have hfits : All2 Fits can.kinds ρ := by
    refine All2.of_get hlen.symm fun i k n hk hn => ?_
    simp only [Can.occ, List.all_eq_true, List.mem_range] at hocc
    have := hocc i (lt_of_some hk)
    rw [hk] at this
    simp only [Bool.or_eq_true, List.any_eq_true] at this
    have done : ∀ n', ρ[i]? = some n' → Fits k n' → Fits k n := fun n' a b => by rw [hn] at a; exact Option.some.inj a ▸ b
    rcases this with ⟨c, hc, hv⟩ | ⟨g, hg, c, hc, hv⟩
    · obtain ⟨j, hj⟩ := List.getElem?_of_mem hc
      obtain ⟨v, _, hR⟩ := hargs.get hj
      unfold isVarA at hv
      split at hv
      · obtain ⟨n', a, b⟩ := isVarS_fits hv hR; exact done n' a b
      · rename_i cs
        obtain ⟨c, hc, hv⟩ := List.any_eq_true.1 hv
        obtain ⟨us, _, hR⟩ := hR
        obtain ⟨p, hp⟩ := List.getElem?_of_mem hc
        obtain ⟨u, _, hR⟩ := hR.get hp
        obtain ⟨n', a, b⟩ := isVarS_fits hv hR; exact done n' a b
      · cases hv
    · obtain ⟨r, hr⟩ := List.getElem?_of_mem hg
      obtain ⟨p, hp⟩ := List.getElem?_of_mem hc
      have hrl := lt_of_some hr
      rw [hM.len] at hrl
      obtain ⟨v, _, hR⟩ := hM.cell r g _ hr (List.getElem?_eq_getElem hrl) p c hp
      obtain ⟨n', a, b⟩ := isVarS_fits hv hR; exact done n' a b
  refine (h w ρ β vals hM hlen hargs hpre hfits).mono fun e w' he => ?_
  obtain ⟨v, ρ', β', av, hp', rfl, hρ, hβ, hR, hM', hQ⟩ := he
  unfold Can.endQ at hQ
  split at hQ
  · rename_i os hos
    unfold Can.fin at hos
    simp only at hos
    split at hos
    · rename_i os' nm hs hr
      split at hos
      · rename_i hc
        obtain rfl := Option.some.inj hos
        simp only [Bool.and_eq_true] at hc
        obtain ⟨⟨c1, c2⟩, c3⟩ := hc
        obtain ⟨n1, n2, n3⟩ := endN_spec _ _ c3
        have exs : (idSrcs can.kinds.length ++ os').map (Src.ev ρ') = ρ ++ os'.map (Src.ev ρ') := by
          rw [List.map_append, ← hlen, map_ids hρ]
        have ems : (idRegs can.hp.length ++ nm).map (baseOf β') = β ++ nm.map (baseOf β') := by
          rw [List.map_append, hM.len, map_regs hβ]
        have base : ∀ (k : Nat) (q : Nat × Nat) (g : Reg), nm[k]? = some q → hp'[q.1]? = some g → q.2 = 0 → ∃ b, β'[q.1]? = some b ∧ (nm.map (baseOf β'))[k]? = some b := fun k q g hq hg h0 => by
          have hlt := lt_of_some hg
          rw [hM'.len] at hlt
          refine ⟨β'[q.1], List.getElem?_eq_getElem hlt, ?_⟩
          simp [hq, baseOf, hlt, h0]
        have getq : ∀ (k : Nat) e (x : Nat × Nat), can.new[k]? = some e → (nm.map (baseOf β'))[k]? = some x → ∃ q g, nm[k]? = some q ∧ hp'[q.1]? = some g ∧ instL (idRegs can.hp.length ++ nm) (idSrcs can.kinds.length ++ os') e (g.cs.take e.length) = true ∧ g.rw = true ∧ can.hp.length ≤ q.1 ∧ β'[q.1]? = some x := fun k e x he hx => by
          have hk := lt_of_some he
          rw [n1] at hk
          obtain ⟨g, a, b, c, d, z⟩ := n2 k e _ he (List.getElem?_eq_getElem hk)
          obtain ⟨bb, hb1, hb2⟩ := base k _ g (List.getElem?_eq_getElem hk) a z
          obtain rfl : bb = x := by rw [hb2] at hx; exact Option.some.inj hx
          exact ⟨_, g, List.getElem?_eq_getElem hk, a, b, c, d, hb1⟩
        refine ⟨v, os'.map (Src.ev ρ'), nm.map (baseOf β'), rfl, by simpa using srcsOf_length _ _ _ hs, hQ, by simp [n1], ?_, hM'.keep, ?_, ?_, ?_⟩
        · have := instV_R c1 hR
          rw [exs, ems] at this
          exact this
        · intro j e x he hx i c hc
          obtain ⟨g, hg, hi⟩ := endE_spec _ _ c2 j e he
          obtain ⟨s, hs', hi'⟩ := instL_get _ _ hi i c hc
          obtain ⟨u, hu, hRu⟩ := hM'.cell j g x hg (hβ.get hx) i s hs'
          have := instS_R c s u hi' hRu
          rw [exs, ems] at this
          exact ⟨u, hu, this⟩
        · intro k e x he hx
          obtain ⟨q, g, hq, hg, hi, hrw, hn, hb⟩ := getq k e x he hx
          refine ⟨hM'.new q.1 g x hg hb hn hrw, fun i c hc => ?_⟩
          obtain ⟨s, hs', hi'⟩ := instL_get _ _ hi i c hc
          have hs2 : g.cs[i]? = some s := by
            rw [List.getElem?_take] at hs'
            split at hs'
            · exact hs'
            · cases hs'
          obtain ⟨u, hu, hRu⟩ := hM'.cell q.1 g x hg hb i s hs2
          have := instS_R c s u hi' hRu
          rw [exs, ems] at this
          exact ⟨⟨u, hu, this⟩, hM'.free q.1 g x hg hb hrw i (lt_of_some hs2)⟩
        · intro k k' e e' x x' he he' hx hx' hne i j hi hj
          obtain ⟨q, g, hq, hg, hin, hrw, hn, hb⟩ := getq k e x he hx
          obtain ⟨q', g', hq', hg', hin', hrw', hn', hb'⟩ := getq k' e' x' he' hx'
          have hl := instL_length _ _ hin
          have hl' := instL_length _ _ hin'
          simp at hl hl'
          have hqq : q.1 ≠ q'.1 := by
            rcases Nat.lt_or_gt_of_ne hne with h | h
            · exact n3 k k' q q' h hq hq'
            · exact (n3 k' k q' q h hq' hq).symm
          exact hM'.disj q.1 q'.1 g g' x x' hg hg' hb hb' hqq (.inl hrw) i j (by omega) (by omega)
      · cases hos
    · cases hos
  · exact hQ.elim

/-- A run over the canonical state gives the contract. -/
theorem can_of_run {P : Program} {rels : Nat → RelSpec} {X : Exts} (hX : ExtOk P X) (hm : P.follows .mixedOrders = true) {tab : List (FuncId × Con)} (htab : ∀ f con, (f, con) ∈ tab → ConOk P rels f con)
    {f : FuncId} {can : Can} (hocc : can.occ = true)
    (h : ∀ ρ : Env, ρ.length = can.kinds.length → All2 Fits can.kinds ρ → (rels can.id).pre ρ → (topX P X tab f can.args can.hp can.kinds.length).vc rels (can.endQ rels ρ) ρ) : CanOk P rels f can :=
  can_of_calls hocc fun w ρ β vals hM hlen hargs hpre hfits => topX_sound (S0 := canOld β can.hp) hX hm htab can.kinds.length hM hlen.symm hargs (h ρ hlen hfits hpre)
end Go.Sx

/- Conditions with a bound on the branches; the contract from the condition. -/
namespace Go.Sx
open Go

theorem alln_mono : ∀ (n : Nat) {K K' : List Int → Prop}, (∀ l, K l → K' l) → alln n K → alln n K'
  | 0, _, _, h, hk => h _ hk
  | n + 1, _, _, h, hk => fun x => alln_mono n (fun l => h (x :: l)) (hk x)

theorem Ins.vc_mono {rels : Nat → RelSpec} {ρ : Env} {K K' : List Int → Prop} (h : ∀ l, K l → K' l) : ∀ (I : Ins), I.vc rels ρ K → I.vc rels ρ K'
  | .bin op k x y, hk => by
    simp only [Ins.vc] at hk ⊢
    revert hk
    cases binNeeds op y with
    | true => exact fun hk => ⟨hk.1, fun r e => h _ (hk.2 r e)⟩
    | false => exact fun hk r e => h _ (hk r e)
  | .cmp .., hk => fun r e => h _ (hk r e)
  | .conv .., hk => fun r e => h _ (hk r e)
  | .un .., hk => fun r e => h _ (hk r e)
  | .notb .., hk => fun r e => h _ (hk r e)
  | .add64 .., hk => ⟨hk.1, fun s o e f => h _ (hk.2 s o e f)⟩
  | .sub64 .., hk => ⟨hk.1, fun s o e f => h _ (hk.2 s o e f)⟩
  | .call .., hk => ⟨hk.1, alln_mono _ (fun l hl hp => h _ (hl hp)) hk.2⟩

/-- At most n branches deep. -/
def Tree.vcN (rels : Nat → RelSpec) (Q : Env → AV → List Reg → Prop) : Tree → Nat → Env → Prop
  | .bad _, _, _ => False
  | .fin v hp, _, ρ => Q ρ v hp
  | .ins I t, n, ρ => I.vc rels ρ fun outs => t.vcN rels Q n (ρ ++ outs)
  | .ite i a b, n, ρ => match n with
    | 0 => False
    | n + 1 => (ρ.getD i 0 ≠ 0 → a.vcN rels Q n ρ) ∧ (ρ.getD i 0 = 0 → b.vcN rels Q n ρ)
  | .both a b, n, ρ => a.vcN rels Q n ρ ∧ b.vcN rels Q n ρ

theorem Tree.vc_of_vcN {rels : Nat → RelSpec} {Q : Env → AV → List Reg → Prop} : ∀ (t : Tree) (n : Nat) (ρ : Env), t.vcN rels Q n ρ → t.vc rels Q ρ
  | .bad _, _, _, h => h
  | .fin .., _, _, h => h
  | .ins I t, n, ρ, h => Ins.vc_mono (fun l hl => Tree.vc_of_vcN t n _ hl) I h
  | .ite i a b, 0, ρ, h => h.elim
  | .ite i a b, n + 1, ρ, h => ⟨fun k => Tree.vc_of_vcN a n ρ (h.1 k), fun k => Tree.vc_of_vcN b n ρ (h.2 k)⟩
  | .both a b, n, ρ, h => ⟨Tree.vc_of_vcN a n ρ h.1, Tree.vc_of_vcN b n ρ h.2⟩

/-- The ranges of the inputs. -/
def fitsC : List IntKind → List Int → Prop → Prop
  | k :: ks, x :: xs, p => (kmin k ≤ x → x ≤ kmax k → fitsC ks xs p)
  | _, _, p => p
theorem fitsC_spec : ∀ (ks : List IntKind) (xs : List Int) (p : Prop), fitsC ks xs p → All2 Fits ks xs → p
  | [], [], _, h, _ => h
  | k :: ks, x :: xs, p, h, hf => fitsC_spec ks xs p (h hf.1.1 hf.1.2) hf.2

/-- The condition of a contract. -/
def Can.cond (can : Can) (P : Program) (X : Exts) (tab : List (FuncId × Con)) (rels : Nat → RelSpec) (f : FuncId) (n : Nat) : Prop :=
  alln can.kinds.length fun ρ => fitsC can.kinds ρ ((rels can.id).pre ρ → (topX P X tab f can.args can.hp can.kinds.length).vcN rels (can.endQ rels ρ) n ρ)

theorem can_of_cond {P : Program} {rels : Nat → RelSpec} {X : Exts} (hX : ExtOk P X) (hm : P.follows .mixedOrders = true) {tab : List (FuncId × Con)} (htab : ∀ f con, (f, con) ∈ tab → ConOk P rels f con)
    {f : FuncId} {can : Can} (n : Nat) (hocc : can.occ = true) (h : can.cond P X tab rels f n) : ConOk P rels f can.con :=
  con_of_can (can_of_run hX hm htab hocc fun ρ hl hf hp => Tree.vc_of_vcN _ n _ (fitsC_spec _ _ _ (alln_spec _ _ h ρ hl) hf hp))
end Go.Sx

/- The calls of math/bits.Add64 and Sub64. -/
namespace Go.Sx
open Go

theorem ext_call {P : Program} {f : FuncId} {e : Array Value → Sem Value} (h1 : (P.funcs[f]?).map (fun fn => fn.name == "runtime.NumGoroutine") = some false)
    (h2 : (P.funcs[f]?).map (fun fn => fn.body.isNone) = some true) (h3 : (P.funcs[f]?).map (fun fn => (Extern.findNext fn).isNone) = some true) (h4 : (P.funcs[f]?).map Extern.find = some (some e)) (args : Array Value) (w : World) :
    (callFunc f args).run P w = ((e args).run P w).andThen fun v w' => .ok (.value v) w' := by
  cases hf : P.funcs[f]? with
  | none => rw [hf] at h1; cases h1
  | some fn =>
    rw [hf] at h1 h2 h3 h4
    simp only [Option.map_some, Option.some.injEq] at h1 h2 h3 h4
    exact run_callFunc_extern hf h1 h2 (by simpa using h3) h4 args w

theorem extOk {P : Program} {X : Exts}
    (a1 : (P.funcs[X.add]?).map (fun fn => fn.name == "runtime.NumGoroutine") = some false) (a2 : (P.funcs[X.add]?).map (fun fn => fn.body.isNone) = some true)
    (a3 : (P.funcs[X.add]?).map (fun fn => (Extern.findNext fn).isNone) = some true) (a4 : (P.funcs[X.add]?).map Extern.find = some (some add64Entry))
    (s1 : (P.funcs[X.sub]?).map (fun fn => fn.name == "runtime.NumGoroutine") = some false) (s2 : (P.funcs[X.sub]?).map (fun fn => fn.body.isNone) = some true)
    (s3 : (P.funcs[X.sub]?).map (fun fn => (Extern.findNext fn).isNone) = some true) (s4 : (P.funcs[X.sub]?).map Extern.find = some (some Go.Proofs.sub64Entry)) : ExtOk P X := by
  constructor
  · intro x y c w hx hy hc hc1
    rw [ext_call a1 a2 a3 a4, run_add64 x y c hx.1 hy.1 hc.1 hc1]
    rfl
  · intro x y c w hx hy hc hc1
    obtain ⟨X', rfl⟩ := Int.eq_ofNat_of_zero_le hx.1
    obtain ⟨Y', rfl⟩ := Int.eq_ofNat_of_zero_le hy.1
    obtain ⟨C', rfl⟩ := Int.eq_ofNat_of_zero_le hc.1
    have hx2 := hx.2
    have hy2 := hy.2
    simp only [kmax] at hx2 hy2
    rw [ext_call s1 s2 s3 s4, Go.Proofs.run_sub64 X' Y' C' (by omega)]
    simp only [Result.andThen]
    congr 5
    · congr 1; omega
    · congr 3; split <;> split <;> omega
end Go.Sx

/- Conditions with the numbers in a tree of slots: the same, quicker to unfold. -/
set_option linter.constructorNameAsVariable false
namespace Go.Sx
open Go

def Src.evT (g : Tr Int) : Src → Int
  | .c n => n
  | .v i => match g.get i with
    | some n => n
    | none => 0
def Ins.vcT (rels : Nat → RelSpec) (g : Tr Int) : Ins → (List Int → Prop) → Prop
  | .bin op k x y, K => match binNeeds op y with
    | true => binPre op (y.evT g) ∧ ∀ r, r = binFn op k (x.evT g) (y.evT g) → K [r]
    | false => ∀ r, r = binFn op k (x.evT g) (y.evT g) → K [r]
  | .cmp op x y, K => ∀ r, r = (if cmpFn op (x.evT g) (y.evT g) = true then 1 else 0) → K [r]
  | .conv k x, K => ∀ r, r = k.wrap (x.evT g) → K [r]
  | .un op k x, K => ∀ r, r = unFn op k (x.evT g) → K [r]
  | .notb i, K => ∀ r, r = (if (Src.v i).evT g = 0 then 1 else 0) → K [r]
  | .add64 x y c, K => c.evT g ≤ 1 ∧ ∀ s o, s = (x.evT g + y.evT g + c.evT g) % 18446744073709551616 → o = (x.evT g + y.evT g + c.evT g) / 18446744073709551616 → K [s, o]
  | .sub64 x y c, K => c.evT g ≤ 1 ∧ ∀ s o, s = (x.evT g - y.evT g - c.evT g) % 18446744073709551616 → o = (if x.evT g < y.evT g + c.evT g then 1 else 0) → K [s, o]
  | .call id xs n, K => (rels id).pre (xs.map (Src.evT g)) ∧ alln n fun outs => (rels id).post (xs.map (Src.evT g)) outs → K outs

def pushK {β : Type} : List Int → Nat → Tr Int → (Nat → Tr Int → β) → β
  | [], nv, g, c => c nv g
  | x :: l, nv, g, c => match nv with
    | 0 => g.setK 1 0 x fun g => pushK l 1 g c
    | m + 1 => g.setK (m + 2) (m + 1) x fun g => pushK l (m + 2) g c

/-- The numbers are those of the list. -/
def InTr (g : Tr Int) (ρ : Env) : Prop := ∀ i : Nat, g.get i = ρ[i]?
theorem InTr.set {g g' : Tr Int} {ρ : Env} {x : Int} (h : InTr g ρ) (hg : ∀ j, g'.get j = if j = ρ.length then some x else g.get j) : InTr g' (ρ ++ [x]) := by
  intro i
  rw [hg]
  by_cases hi : i = ρ.length
  · subst hi; simp
  · rw [if_neg hi, h i]
    rcases Nat.lt_or_ge i ρ.length with k | k
    · rw [List.getElem?_append_left k]
    · rw [List.getElem?_eq_none k, List.getElem?_eq_none (by simp; omega)]
theorem pushK_spec : ∀ (l : List Int) (g : Tr Int) (ρ : Env), InTr g ρ → ∃ g', InTr g' (ρ ++ l) ∧ ∀ {β : Type} (c : Nat → Tr Int → β), pushK l ρ.length g c = c (ρ ++ l).length g'
  | [], g, ρ, h => ⟨g, by simpa using h, fun c => by simp [pushK]⟩
  | x :: l, g, ρ, h => by
    obtain ⟨t', h1, h2⟩ := Tr.setK_spec (ρ.length + 1) g ρ.length x (Nat.lt_succ_self _)
    obtain ⟨g', k1, k2⟩ := pushK_spec l t' (ρ ++ [x]) (h.set h2)
    refine ⟨g', by simpa using k1, fun c => ?_⟩
    have k3 := k2 c
    simp only [List.append_assoc, List.cons_append, List.nil_append] at k3
    rw [← k3]
    cases hl : ρ.length with
    | zero =>
      rw [hl] at h1
      simp only [pushK]
      rw [h1]
      simp [hl]
    | succ m =>
      rw [hl] at h1
      simp only [pushK]
      rw [h1]
      simp [hl]
theorem Src.evT_eq {g : Tr Int} {ρ : Env} (h : InTr g ρ) : ∀ s : Src, s.evT g = s.ev ρ
  | .c n => rfl
  | .v i => by
    simp only [Src.evT, Src.ev, h i, List.getD]
    cases ρ[i]? <;> rfl
theorem Ins.vcT_eq {rels : Nat → RelSpec} {g : Tr Int} {ρ : Env} (h : InTr g ρ) {K : List Int → Prop} : ∀ I : Ins, I.vcT rels g K → I.vc rels ρ K
  | .bin op k x y, hk => by
    simp only [Ins.vcT, Ins.vc, Src.evT_eq h] at hk ⊢
    revert hk
    cases binNeeds op y <;> exact fun h => h
  | .cmp .., hk => by simpa only [Ins.vcT, Ins.vc, Src.evT_eq h] using hk
  | .conv .., hk => by simpa only [Ins.vcT, Ins.vc, Src.evT_eq h] using hk
  | .un .., hk => by simpa only [Ins.vcT, Ins.vc, Src.evT_eq h] using hk
  | .notb i, hk => by
    simp only [Ins.vcT, Ins.vc, Src.evT_eq h] at hk ⊢
    exact hk
  | .add64 .., hk => by simpa only [Ins.vcT, Ins.vc, Src.evT_eq h] using hk
  | .sub64 .., hk => by simpa only [Ins.vcT, Ins.vc, Src.evT_eq h] using hk
  | .call _ xs _, hk => by
    have : xs.map (Src.evT g) = xs.map (Src.ev ρ) := List.map_congr_left fun s _ => Src.evT_eq h s
    simpa only [Ins.vcT, Ins.vc, this] using hk

/-- Numbers that have been decided on the way: not 0, or 0. -/
def Decided (kn : List (Nat × Bool)) (ρ : Env) : Prop := ∀ i b, lookA kn i = some b → i < ρ.length ∧ (ρ.getD i 0 != 0) = b
theorem Decided.app {kn : List (Nat × Bool)} {ρ : Env} (h : Decided kn ρ) (l : List Int) : Decided kn (ρ ++ l) := fun i b e => by
  obtain ⟨h1, h2⟩ := h i b e
  refine ⟨by simp; omega, ?_⟩
  simp only [List.getD, List.getElem?_append_left h1] at h2 ⊢
  exact h2

def know (i : Nat) (b : Bool) (nv : Nat) (kn : List (Nat × Bool)) : List (Nat × Bool) := if i < nv then (i, b) :: kn else kn

def Tree.vcT (rels : Nat → RelSpec) (can : Can) (ρ0 : Env) : Tree → Nat → List (Nat × Bool) → Nat → Tr Int → Prop
  | .bad _, _, _, _, _ => False
  | .fin v hp, _, _, _, g => match can.fin v hp with
    | some os => (rels can.id).post ρ0 (os.map (Src.evT g))
    | none => False
  | .ins I t, n, kn, nv, g => I.vcT rels g fun outs => pushK outs nv g fun nv g => t.vcT rels can ρ0 n kn nv g
  | .both a b, n, kn, nv, g => a.vcT rels can ρ0 n kn nv g ∧ b.vcT rels can ρ0 n kn nv g
  | .ite i a b, n, kn, nv, g => match lookA kn i with
    | some true => a.vcT rels can ρ0 n kn nv g
    | some false => b.vcT rels can ρ0 n kn nv g
    | none => match n with
      | 0 => False
      | n + 1 => ((Src.v i).evT g ≠ 0 → a.vcT rels can ρ0 n (know i true nv kn) nv g) ∧ ((Src.v i).evT g = 0 → b.vcT rels can ρ0 n (know i false nv kn) nv g)
theorem Decided.cons {kn : List (Nat × Bool)} {ρ : Env} (h : Decided kn ρ) {i : Nat} {b : Bool} (hi : i < ρ.length) (hb : (ρ.getD i 0 != 0) = b) : Decided ((i, b) :: kn) ρ := fun j c e => by
  simp only [lookA] at e
  split at e
  · rename_i hij
    subst hij
    cases e
    exact ⟨hi, hb⟩
  · exact h j c e
theorem Tree.vc_of_vcT {rels : Nat → RelSpec} {can : Can} {ρ0 : Env} : ∀ (t : Tree) (n : Nat) (kn : List (Nat × Bool)) (ρ : Env) (g : Tr Int), InTr g ρ → Decided kn ρ → t.vcT rels can ρ0 n kn ρ.length g → t.vc rels (can.endQ rels ρ0) ρ
  | .bad _, _, _, _, _, _, _, h => h
  | .fin v hp, n, kn, ρ, g, hg, _, h => by
    simp only [Tree.vcT] at h
    simp only [Tree.vc, Can.endQ]
    cases hf : can.fin v hp with
    | none => rw [hf] at h; exact h
    | some os =>
      rw [hf] at h
      have : os.map (Src.evT g) = os.map (Src.ev ρ) := List.map_congr_left fun s _ => Src.evT_eq hg s
      simpa only [this] using h
  | .ins I t, n, kn, ρ, g, hg, hk, h => by
    simp only [Tree.vcT] at h
    simp only [Tree.vc]
    refine Ins.vc_mono (fun l hl => ?_) I (Ins.vcT_eq hg I h)
    obtain ⟨g', k1, k2⟩ := pushK_spec l g ρ hg
    rw [k2] at hl
    exact Tree.vc_of_vcT t n kn _ g' k1 (hk.app l) hl
  | .both a b, n, kn, ρ, g, hg, hk, h => ⟨Tree.vc_of_vcT a n kn ρ g hg hk h.1, Tree.vc_of_vcT b n kn ρ g hg hk h.2⟩
  | .ite i a b, n, kn, ρ, g, hg, hk, h => by
    have e : (Src.v i).evT g = ρ.getD i 0 := Src.evT_eq hg (.v i)
    simp only [Tree.vcT] at h
    simp only [Tree.vc]
    split at h
    · rename_i hl
      have := (hk i true hl).2
      exact ⟨fun _ => Tree.vc_of_vcT a n kn ρ g hg hk h, fun k => by rw [k] at this; simp at this⟩
    · rename_i hl
      have := (hk i false hl).2
      exact ⟨fun k => by simp at this; exact (k this).elim, fun _ => Tree.vc_of_vcT b n kn ρ g hg hk h⟩
    · cases n with
      | zero => exact h.elim
      | succ n =>
        simp only at h
        rw [e] at h
        have hkn : ∀ c : Bool, (ρ.getD i 0 != 0) = c → Decided (know i c ρ.length kn) ρ := fun c hc => by
          unfold know
          split
          · rename_i hi
            exact hk.cons hi hc
          · exact hk
        exact ⟨fun k => Tree.vc_of_vcT a n _ ρ g hg (hkn true (by simpa using k)) (h.1 k), fun k => Tree.vc_of_vcT b n _ ρ g hg (hkn false (by simpa using k)) (h.2 k)⟩

/-- The condition of a contract, quicker to unfold. -/
def Can.condT (can : Can) (P : Program) (X : Exts) (tab : List (FuncId × Con)) (rels : Nat → RelSpec) (f : FuncId) (n : Nat) : Prop :=
  alln can.kinds.length fun ρ => fitsC can.kinds ρ ((rels can.id).pre ρ → pushK ρ 0 .e fun nv g => (topX P X tab f can.args can.hp nv).vcT rels can ρ n [] nv g)

theorem can_of_condT {P : Program} {rels : Nat → RelSpec} {X : Exts} (hX : ExtOk P X) (hm : P.follows .mixedOrders = true) {tab : List (FuncId × Con)} (htab : ∀ f con, (f, con) ∈ tab → ConOk P rels f con)
    {f : FuncId} {can : Can} (n : Nat) (hocc : can.occ = true) (h : can.condT P X tab rels f n) : CanOk P rels f can :=
  can_of_run hX hm htab hocc fun ρ hl hf hp => by
    have h1 := fitsC_spec _ _ _ (alln_spec _ _ h ρ hl) hf hp
    have h0 : InTr .e [] := fun i => by simp [Tr.get]
    obtain ⟨g', k1, k2⟩ := pushK_spec ρ .e [] h0
    have k2' := k2 fun nv g => (topX P X tab f can.args can.hp nv).vcT rels can ρ n [] nv g
    simp only [List.nil_append, List.length_nil] at k2'
    rw [k2'] at h1
    rw [hl] at h1
    simp only [List.nil_append] at k1
    exact Tree.vc_of_vcT _ n [] ρ g' k1 (fun i b e => by simp [lookA] at e) (by rw [hl]; exact h1)
end Go.Sx

/- Loops that are cut: one round from a canonical state, its numbers bound by an invariant. -/
namespace Go.Sx
open Go

/-- The state at a loop's head: its frame, its memory (the first regions as they came in), how many numbers beyond those that came in. -/
structure CutS where
  id : Nat
  fr : List (Tmp × AV)
  hp : List Reg
  n : Nat

def getsX (fr : Tr AV) : List (Tmp × AV) → Option (List AV)
  | [] => some []
  | (t, _) :: l => match fr.get t, getsX fr l with
    | some v, some vs => some (v :: vs)
    | _, _ => none
def matVs (σ : Sub) : List (Tmp × AV) → List AV → Sub
  | (_, c) :: cs, s :: ss => matVs (matV σ c s) cs ss
  | _, _ => σ
def instVs (m : List (Nat × Nat)) (xs : List Src) : List (Tmp × AV) → List AV → Bool
  | [], [] => true
  | (_, c) :: cs, s :: ss => instV m xs c s && instVs m xs cs ss
  | _, _ => false
def startAt (n : Nat) : List Reg → List (Nat × Nat) → Nat → Bool
  | g :: gs, q :: qs, j => (decide (j < n) || !g.rw || decide (n ≤ q.1)) && startAt n gs qs (j + 1)
  | _, _, _ => true
def idFirst : Nat → Nat → List (Nat × Nat) → Bool
  | 0, _, _ => true
  | n + 1, j, q :: qs => q.1 == j && q.2 == 0 && idFirst n (j + 1) qs
  | _ + 1, _, [] => false
def idSrc : Nat → Nat → List Src → Option (List Src)
  | 0, _, l => some l
  | n + 1, j, .v i :: l => if i = j then idSrc n (j + 1) l else none
  | _ + 1, _, _ => none
/-- As inst, quicker: the first n0 numbers are themselves. -/
def instG (n0 : Nat) (os : List Src) (m : List (Nat × Nat)) : Sc → Sc → Bool
  | .var k i, s => if i < n0 then (match s with
      | .var k' i' => k == k' && i == i'
      | _ => false) else (match srcK s, os[i - n0]? with
      | some (k', x), some y => k == k' && x.eqB y
      | _, _ => false)
  | .sliceC r o l i, .sliceC r' o' l' j => if i < n0 then (match m[r]? with
      | some q => q.1 == r' && o' == q.2 + o && l == l' && i == j
      | none => false) else (match m[r]?, os[i - n0]? with
      | some q, some (.v j') => q.1 == r' && o' == q.2 + o && l == l' && j == j'
      | _, _ => false)
  | .sliceC r o l i, .slice r' o' l' c' => if i < n0 then false else (match m[r]?, os[i - n0]? with
      | some q, some (.c n) => q.1 == r' && o' == q.2 + o && l == l' && decide (l' ≤ c') && n == (c' : Int) && decide ((c' : Int) ≤ 9223372036854775807)
      | _, _ => false)
  | c, s => instS m [] c s
theorem instS_nil {m : List (Nat × Nat)} {xs : List Src} : ∀ (c s : Sc), instS m [] c s = true → instS m xs c s = true := by
  intro c
  induction c with
  | var k i => intro s h; simp [instS] at h
  | boolv i => intro s h; cases s <;> simp [instS] at h
  | sliceV i => intro s h; cases s <;> simp [instS] at h
  | sliceC r o l i => intro s h; cases s <;> simp [instS] at h
  | iface t x ih =>
    intro s h
    cases s <;> simp [instS] at h ⊢
    exact ⟨h.1, ih _ h.2⟩
  | _ => intro s h; cases s <;> exact h
theorem idSrcs_get {n0 : Nat} {os : List Src} {i : Nat} : (idSrcs n0 ++ os)[i]? = if i < n0 then some (.v i) else os[i - n0]? := by
  by_cases h : i < n0
  · rw [if_pos h, List.getElem?_append_left (by simpa [idSrcs] using h)]
    simp [idSrcs, h]
  · rw [if_neg h, List.getElem?_append_right (by simpa [idSrcs] using h)]
    simp [idSrcs]
theorem instG_S {n0 : Nat} {os : List Src} {m : List (Nat × Nat)} : ∀ (c s : Sc), instG n0 os m c s = true → instS m (idSrcs n0 ++ os) c s = true := by
  intro c s h
  cases c with
  | var k i =>
    simp only [instG] at h
    simp only [instS, idSrcs_get]
    split at h
    · rename_i hi
      split at h
      · simp only [Bool.and_eq_true, beq_iff_eq] at h
        obtain ⟨rfl, rfl⟩ := h
        simp [srcK, hi, Src.eqB]
      · cases h
    · rename_i hi
      rw [if_neg hi]
      exact h
  | sliceC r o l i =>
    cases s <;> simp only [instG] at h <;> first | (simp [instS] at h; done) | skip
    · split at h
      · cases h
      · rename_i hi
        simp only [instS, idSrcs_get, if_neg hi]
        exact h
    · simp only [instS, idSrcs_get]
      split at h
      · rename_i hi
        rw [if_pos hi]
        split at h
        · rename_i q hq
          simp only [Bool.and_eq_true, beq_iff_eq] at h
          obtain ⟨⟨⟨h1, h2⟩, h3⟩, h4⟩ := h
          subst h1 h2 h3 h4
          simp [hq]
        · cases h
      · rename_i hi
        rw [if_neg hi]
        exact h
  | _ => exact instS_nil _ _ h
def instGL (n0 : Nat) (os : List Src) (m : List (Nat × Nat)) : List Sc → List Sc → Bool
  | [], [] => true
  | c :: cs, s :: ss => instG n0 os m c s && instGL n0 os m cs ss
  | _, _ => false
theorem instGL_L {n0 : Nat} {os : List Src} {m : List (Nat × Nat)} : ∀ (cs ss : List Sc), instGL n0 os m cs ss = true → instL m (idSrcs n0 ++ os) cs ss = true
  | [], [], _ => rfl
  | c :: cs, s :: ss, h => by
    simp only [instGL, Bool.and_eq_true] at h
    simp only [instL, Bool.and_eq_true]
    exact ⟨instG_S c s h.1, instGL_L cs ss h.2⟩
def instG1 (n0 : Nat) (os : List Src) (m : List (Nat × Nat)) : AV → AV → Bool
  | .one (.s c), .one (.s s) => instG n0 os m c s
  | .one (.g c), .one (.g s) => instGL n0 os m c s
  | _, _ => false
def instGVs (n0 : Nat) (os : List Src) (m : List (Nat × Nat)) : List (Tmp × AV) → List AV → Bool
  | [], [] => true
  | (_, c) :: cs, s :: ss => instG1 n0 os m c s && instGVs n0 os m cs ss
  | _, _ => false
theorem instGVs_V {n0 : Nat} {os : List Src} {m : List (Nat × Nat)} : ∀ (cs : List (Tmp × AV)) (ss : List AV), instGVs n0 os m cs ss = true → instVs m (idSrcs n0 ++ os) cs ss = true
  | [], [], _ => rfl
  | (t, c) :: cs, s :: ss, h => by
    simp only [instGVs, Bool.and_eq_true] at h
    simp only [instVs, Bool.and_eq_true]
    refine ⟨?_, instGVs_V cs ss h.2⟩
    have h1 := h.1
    unfold instG1 at h1
    split at h1
    · exact instG_S _ _ h1
    · exact instGL_L _ _ h1
    · cases h1
def chkG (n0 : Nat) (os : List Src) (m : List (Nat × Nat)) (hp : List Reg) : List Reg → List (Nat × Nat) → Bool
  | [], [] => true
  | g :: gs, q :: qs => (match hp[q.1]? with
      | some g' => instGL n0 os m g.cs ((g'.cs.drop q.2).take g.cs.length) && (!g.rw || g'.rw) && decide (q.2 + g.cs.length ≤ g'.cs.length)
      | none => false) && chkG n0 os m hp gs qs
  | _, _ => false
theorem chkG_H {n0 : Nat} {os : List Src} {m : List (Nat × Nat)} {hp : List Reg} : ∀ (gs : List Reg) (qs : List (Nat × Nat)), chkG n0 os m hp gs qs = true → chkH m (idSrcs n0 ++ os) hp gs (gs.map Reg.cs) qs = true
  | [], [], _ => rfl
  | g :: gs, q :: qs, h => by
    simp only [chkG, Bool.and_eq_true] at h
    simp only [List.map_cons, chkH, Bool.and_eq_true]
    refine ⟨⟨?_, by simp⟩, chkG_H gs qs h.2⟩
    have h1 := h.1
    split at h1
    · rename_i g' hg
      simp only [hg, Bool.and_eq_true] at h1 ⊢
      exact ⟨⟨instGL_L _ _ h1.1.1, h1.1.2⟩, h1.2⟩
    · cases h1
/-- Numbers beyond the first n0 alone. -/
def matG (n0 : Nat) (σ : Sub) : Sc → Sc → Sub
  | .var k i, s => if i < n0 then σ else matS σ (.var k i) s
  | .sliceC r o l i, .sliceC r' o' l' j => if i < n0 then σ.reg r o r' o' else matS σ (.sliceC r o l i) (.sliceC r' o' l' j)
  | c, s => matS σ c s
def matGL (n0 : Nat) (σ : Sub) : List Sc → List Sc → Sub
  | c :: cs, s :: ss => matGL n0 (matG n0 σ c s) cs ss
  | _, _ => σ
def matGVs (n0 : Nat) (σ : Sub) : List (Tmp × AV) → List AV → Sub
  | (_, .one (.s c)) :: cs, .one (.s s) :: ss => matGVs n0 (matG n0 σ c s) cs ss
  | (_, .one (.g c)) :: cs, .one (.g s) :: ss => matGVs n0 (matGL n0 σ c s) cs ss
  | _, _ => σ
def matGH (n0 : Nat) (hp : List Reg) : List Reg → Nat → Sub → Sub
  | [], _, σ => σ
  | g :: l, j, σ => match lookA σ.m j with
    | some (r, o) => match hp[r]? with
      | some g' => matGH n0 hp l (j + 1) (matGL n0 σ g.cs (g'.cs.drop o))
      | none => σ
    | none => σ
/-- Is the state an instance of the loop's? The sources of its numbers. -/
def CutS.fit (c : CutS) (n0 r0 : Nat) (st : St) : Option (List Src) :=
  match getsX st.fr c.fr with
  | none => none
  | some us => match matGH n0 st.hp c.hp 0 (matGVs n0 ⟨(List.range r0).map fun j => (j, (j, 0)), []⟩ c.fr us) with
    | ⟨sm, sv⟩ => match regsOf ⟨sm, sv⟩ 0 c.hp.length, srcsOf ⟨sm, sv⟩ n0 c.n with
      | some m, some os => if instGVs n0 os m c.fr us && chkG n0 os m st.hp c.hp m && apartH c.hp m && c.hp.all (fun g => g.it.isNone && g.bulk.isNone) && startAt r0 c.hp m 0 && idFirst r0 0 m then some os else none
      | _, _ => none

/-- Canonical numbers beyond the first n0, from b on. -/
def shiftS (n0 b : Nat) : Sc → Sc
  | .var k i => if i < n0 then .var k i else .var k (b + (i - n0))
  | .boolv i => if i < n0 then .boolv i else .boolv (b + (i - n0))
  | .sliceV i => if i < n0 then .sliceV i else .sliceV (b + (i - n0))
  | .iface t v => .iface t (shiftS n0 b v)
  | .sliceN .. => .und
  | .sliceC r o l i => if i < n0 then .sliceC r o l i else .sliceC r o l (b + (i - n0))
  | s => s
def shift1 (n0 b : Nat) : A1 → A1
  | .s c => .s (shiftS n0 b c)
  | .g cs => .g (cs.map (shiftS n0 b))
def shiftV (n0 b : Nat) : AV → AV
  | .one a => .one (shift1 n0 b a)
  | .tup vs => .tup (vs.map (shift1 n0 b))
def fillFr {β : Type} (n0 b : Nat) : List (Tmp × AV) → Tr AV → (Tr AV → β) → β
  | [], t, k => k t
  | (i, v) :: l, t, k => t.setK (i + 1) i (shiftV n0 b v) fun t => fillFr n0 b l t k
/-- The same cells, forced. -/
def normC {β : Type} (c : Sc) (k : Sc → β) : β := match c with
  | .var q i => forceK i fun i => k (.var q i)
  | .ptr r o => forceK r fun r => forceK o fun o => k (.ptr r o)
  | .slice r o l c => forceK r fun r => forceK o fun o => k (.slice r o l c)
  | .int q n => k (.int q n)
  | .sliceU r o l => forceK r fun r => forceK o fun o => forceK l fun l => k (.sliceU r o l)
  | .sliceC r o l i => forceK r fun r => forceK o fun o => forceK l fun l => forceK i fun i => k (.sliceC r o l i)
  | .bool b => k (.bool b)
  | .nils => k .nils
  | .nilp => k .nilp
  | .und => k .und
  | c => k c
theorem normC_spec {β : Type} (c : Sc) (k : Sc → β) : normC c k = k c := by
  unfold normC
  split <;> simp [forceK_spec]
def normL {β : Type} : List Sc → (List Sc → β) → β
  | [], k => k []
  | c :: l, k => normC c fun c => normL l fun l => k (c :: l)
theorem normL_spec {β : Type} : ∀ (l : List Sc) (k : List Sc → β), normL l k = k l
  | [], k => rfl
  | c :: l, k => by simp [normL, normC_spec, normL_spec l]
def normH {β : Type} : List Reg → (List Reg → β) → β
  | [], k => k []
  | ⟨cs, rw, it, bulk⟩ :: l, k => normL cs fun cs => normH l fun l => k (⟨cs, rw, it, bulk⟩ :: l)
theorem normH_spec {β : Type} : ∀ (l : List Reg) (k : List Reg → β), normH l k = k l
  | [], k => rfl
  | ⟨cs, rw, it, bulk⟩ :: l, k => by simp [normH, normL_spec, normH_spec l]

def CutS.openK {β : Type} (c : CutS) (n0 b nt : Nat) (k : St → β) : β :=
  fillFr n0 b c.fr .e fun fr => forceK (b + c.n) fun nv => normH (c.hp.map fun g => { g with cs := g.cs.map (shiftS n0 b) }) fun hp => k ⟨fr, nt, hp, nv⟩
def CutS.openS (c : CutS) (n0 b nt : Nat) : St := c.openK n0 b nt fun st => st
def srcsFrom (b n : Nat) : List Src := (List.range n).map fun i => .v (b + i)

def codeC (P : Program) (X : Exts) (call : CallT) (isCut : Code → Bool) (strat : Code → St → Option CutS) (n0 r0 : Nat) : Nat → Code → St → Kont → Tree
  | 0, _, _, _ => .bad 20
  | n + 1, c, st, K => match c with
    | .skip => K.nrm st
    | .region _ ops draw => regionX P X call ops draw st K.nrm
    | .seq a b => codeC P X call isCut strat n0 r0 n a st { K with nrm := fun st => codeC P X call isCut strat n0 r0 n b st K }
    | .cond c a b => match evX st.fr c with
      | .one (.s (.bool t)) => if t then codeC P X call isCut strat n0 r0 n a st K else codeC P X call isCut strat n0 r0 n b st K
      | .one (.s (.boolv i)) => .ite i (codeC P X call isCut strat n0 r0 n a st K) (codeC P X call isCut strat n0 r0 n b st K)
      | _ => .bad 21
    | .block id b => codeC P X call isCut strat n0 r0 n b st { K with ext := fun i st => if i = id then K.nrm st else K.ext i st }
    | .loop b => if isCut b = false then codeC P X call isCut strat n0 r0 n b st { K with nrm := fun st => codeC P X call isCut strat n0 r0 n (.loop b) st K } else match strat b st with
      | none => .bad 86
      | some cs => match cs.fit n0 r0 st with
        | none => .bad 82
        | some os => forceK st.nv fun nv => forceK st.nt fun nt => .ins (.call cs.id (idSrcs n0 ++ os) cs.n) (cs.openK n0 nv nt fun st1 => codeC P X call isCut strat n0 r0 n b st1 { K with
            nrm := fun st2 => if st2.nt = nt then (match cs.fit n0 r0 st2 with
              | some os' => .ins (.call (cs.id + 1000) (idSrcs n0 ++ (srcsFrom nv cs.n ++ os')) 0) (.bad 83)
              | none => .bad 84) else .bad 85 })
    | .exit i => K.ext i st
    | .ret => K.ret st
    | _ => .bad 22

/-- What a cut's relations must be. -/
def CutOk (rels : Nat → RelSpec) (n0 n id : Nat) : Prop :=
  ∃ μ : List Int → Nat, (∀ a i o : List Int, a.length = n0 → i.length = n → o.length = n → (rels id).pre (a ++ o) → (rels id).post (a ++ i) o) ∧
    ∀ a h i : List Int, a.length = n0 → h.length = n → i.length = n → (rels (id + 1000)).pre (a ++ (h ++ i)) → (rels id).pre (a ++ i) ∧ μ (a ++ i) < μ (a ++ h)

theorem shiftS_R {ρi ρc outs : Env} {β : Base} (hρ : Ext ρi ρc) : ∀ (c : Sc) (v : Value), c.R (ρi ++ outs) β v → (shiftS ρi.length ρc.length c).R (ρc ++ outs) β v := by
  have num : ∀ (i : Nat) (n : Int), (ρi ++ outs)[i]? = some n → if i < ρi.length then (ρc ++ outs)[i]? = some n else (ρc ++ outs)[ρc.length + (i - ρi.length)]? = some n := by
    intro i n hn
    rcases get_app hn with ⟨h1, h2⟩ | ⟨h1, h2⟩
    · rw [if_pos h1]
      exact (Ext.app ρc outs).get (hρ.get h2)
    · rw [if_neg (by omega), List.getElem?_append_right (by omega)]
      simpa using h2
  intro c
  induction c with
  | var k i =>
    intro v ⟨n, hn, hv⟩
    have := num i n hn
    simp only [shiftS]
    split
    · rename_i h; rw [if_pos h] at this; exact ⟨n, this, hv⟩
    · rename_i h; rw [if_neg h] at this; exact ⟨n, this, hv⟩
  | boolv i =>
    intro v ⟨n, hn, hv⟩
    have := num i n hn
    simp only [shiftS]
    split
    · rename_i h; rw [if_pos h] at this; exact ⟨n, this, hv⟩
    · rename_i h; rw [if_neg h] at this; exact ⟨n, this, hv⟩
  | sliceV i =>
    intro v ⟨n, p, cap, hn, hv⟩
    have := num i n hn
    simp only [shiftS]
    split
    · rename_i h; rw [if_pos h] at this; exact ⟨n, p, cap, this, hv⟩
    · rename_i h; rw [if_neg h] at this; exact ⟨n, p, cap, this, hv⟩
  | iface t c ih => intro v ⟨u, hv, hu⟩; exact ⟨u, hv, ih u hu⟩
  | sliceN r i => intro v h; trivial
  | sliceC r o l i =>
    intro v ⟨bb, n, hb, hn, hv⟩
    have := num i n hn
    simp only [shiftS]
    split
    · rename_i h; rw [if_pos h] at this; exact ⟨bb, n, hb, this, hv⟩
    · rename_i h; rw [if_neg h] at this; exact ⟨bb, n, hb, this, hv⟩
  | _ => intro v h; exact h
theorem shiftL_R {ρi ρc outs : Env} {β : Base} (hρ : Ext ρi ρc) : ∀ (cs : List Sc) (vs : List Value), All2 (Sc.R (ρi ++ outs) β) cs vs → All2 (Sc.R (ρc ++ outs) β) (cs.map (shiftS ρi.length ρc.length)) vs
  | [], [], _ => trivial
  | c :: cs, v :: vs, h => ⟨shiftS_R hρ c v h.1, shiftL_R hρ cs vs h.2⟩
theorem shift1_R {ρi ρc outs : Env} {β : Base} (hρ : Ext ρi ρc) (c : A1) (v : Value) (h : c.R (ρi ++ outs) β v) : (shift1 ρi.length ρc.length c).R (ρc ++ outs) β v := by
  cases c with
  | s c => exact shiftS_R hρ c v h
  | g cs => obtain ⟨us, hv, h⟩ := h; exact ⟨us, hv, shiftL_R hρ cs us h⟩
theorem shift1s_R {ρi ρc outs : Env} {β : Base} (hρ : Ext ρi ρc) : ∀ (cs : List A1) (vs : List Value), All2 (A1.R (ρi ++ outs) β) cs vs → All2 (A1.R (ρc ++ outs) β) (cs.map (shift1 ρi.length ρc.length)) vs
  | [], [], _ => trivial
  | c :: cs, v :: vs, h => ⟨shift1_R hρ c v h.1, shift1s_R hρ cs vs h.2⟩
theorem shiftV_R {ρi ρc outs : Env} {β : Base} (hρ : Ext ρi ρc) (c : AV) (v : Value) (h : c.R (ρi ++ outs) β v) : (shiftV ρi.length ρc.length c).R (ρc ++ outs) β v := by
  cases c with
  | one a => exact shift1_R hρ a v h
  | tup vs => obtain ⟨us, hv, h⟩ := h; exact ⟨us, hv, shift1s_R hρ vs us h⟩

theorem fillFr_spec (n0 b : Nat) : ∀ (l : List (Tmp × AV)) (t : Tr AV), ∃ t', (∀ {β : Type} (k : Tr AV → β), fillFr n0 b l t k = k t') ∧ ∀ j v, t'.get j = some v → t.get j = some v ∨ ∃ a, (j, a) ∈ l ∧ v = shiftV n0 b a
  | [], t => ⟨t, fun _ => rfl, fun j v h => .inl h⟩
  | (i, a) :: l, t => by
    obtain ⟨t1, h1, h2⟩ := Tr.setK_spec (i + 1) t i (shiftV n0 b a) (by omega)
    obtain ⟨t2, k1, k2⟩ := fillFr_spec n0 b l t1
    refine ⟨t2, fun k => by simp [fillFr, h1, k1], fun j v e => ?_⟩
    rcases k2 j v e with h | ⟨a', h, e'⟩
    · rw [h2] at h
      by_cases hj : j = i
      · subst hj
        rw [if_pos rfl] at h
        exact .inr ⟨a, by simp, (Option.some.inj h).symm⟩
      · rw [if_neg hj] at h
        exact .inl h
    · exact .inr ⟨a', by simp [h], e'⟩

section
variable {P : Program} {S0 : Old} {w0 w : World}

theorem Mem.inst {ρ : Env} {β : Base} {hp gs : List Reg} {m : List (Nat × Nat)} {xs : List Src} (hM : Mem S0 ρ β hp w0 w) (hH : chkH m xs hp gs (gs.map Reg.cs) m = true) (hap : apartH gs m = true) (hnit : ∀ g ∈ gs, (g.it.isNone && g.bulk.isNone) = true)
    (hr0 : ∀ (j : Nat) g q, gs[j]? = some g → m[j]? = some q → S0.n0 ≤ j → g.rw = true → S0.n0 ≤ q.1) : Mem S0 (xs.map (Src.ev ρ)) (m.map (baseOf β)) gs w0 w := by
  obtain ⟨hel, hml, hHs⟩ := chkH_spec _ _ _ hH
  have hHs' : ∀ (j : Nat) g q, gs[j]? = some g → m[j]? = some q → ∃ g', hp[q.1]? = some g' ∧ instL m xs g.cs ((g'.cs.drop q.2).take g.cs.length) = true ∧ (g.rw = true → g'.rw = true) ∧ q.2 + g.cs.length ≤ g'.cs.length := fun j g q e f =>
    (hHs j g g.cs q e (by simp [e]) f).2
  have hmq : ∀ (j : Nat) q, m[j]? = some q → q.1 < β.length := fun j q e => by
    have hj := lt_of_some e
    obtain ⟨g', hg', _⟩ := hHs' j _ q (List.getElem?_eq_getElem (show j < gs.length by omega)) e
    rw [← hM.len]
    exact lt_of_some hg'
  have base : ∀ (j : Nat) (x : Nat × Nat), (m.map (baseOf β))[j]? = some x → ∃ q b, m[j]? = some q ∧ β[q.1]? = some b ∧ x = (b.1, b.2 + q.2) := fun j x e => by
    rw [List.getElem?_map] at e
    cases hq : m[j]? with
    | none => rw [hq] at e; cases e
    | some q =>
      rw [hq] at e
      have hlt := hmq j q hq
      refine ⟨q, β[q.1], rfl, List.getElem?_eq_getElem hlt, ?_⟩
      rw [← Option.some.inj e]
      simp [baseOf, hlt]
  refine ⟨by simp [hml], ?_, ?_, ?_, ?_, hM.keep, ?_, fun j g x s p hg _ hit => ?_, fun j j' g g' x x' hg _ _ _ hit _ => ?_, fun j g x i hg _ hb => ?_⟩
  · intro j g x hg hxj i c hc
    obtain ⟨q, b, hq, hb, rfl⟩ := base j x hxj
    obtain ⟨g', hg', hins, _⟩ := hHs' j g q hg hq
    obtain ⟨s, hs, hi⟩ := instL_get _ _ hins i c hc
    have hs' : g'.cs[q.2 + i]? = some s := by
      rw [List.getElem?_take] at hs
      split at hs
      · rw [List.getElem?_drop] at hs; exact hs
      · cases hs
    obtain ⟨v, h1, h2⟩ := hM.cell q.1 g' b hg' hb _ s hs'
    exact ⟨v, by simpa [Nat.add_assoc] using h1, instS_R c s v hi h2⟩
  · intro j g x hg hxj hrw i hi
    obtain ⟨q, b, hq, hb, rfl⟩ := base j x hxj
    obtain ⟨g', hg', hins, hrw', hle⟩ := hHs' j g q hg hq
    have := hM.free q.1 g' b hg' hb (hrw' hrw) (q.2 + i) (by omega)
    simpa [Nat.add_assoc] using this
  · intro j j' g g' x x' hg hg' hxj hxj' hne hor i i' hi hi' ⟨k1, k2⟩
    obtain ⟨q, b, hq, hb, rfl⟩ := base j x hxj
    obtain ⟨q', b', hq', hb', rfl⟩ := base j' x' hxj'
    obtain ⟨G, hG, hins, hGw, hl⟩ := hHs' j g q hg hq
    obtain ⟨G', hG', hins', hGw', hl'⟩ := hHs' j' g' q' hg' hq'
    simp only at k1 k2
    by_cases hqq : q.1 = q'.1
    · rw [hqq] at hb
      obtain rfl : b = b' := by rw [hb] at hb'; exact Option.some.inj hb'
      rcases Nat.lt_or_gt_of_ne hne with hlt | hgt
      · have := apartH_spec _ _ hap j j' g g' q q' hlt hg hg' hq hq'
        simp only [apartB, Bool.or_eq_true, Bool.and_eq_true, Bool.not_eq_true', bne_iff_ne, ne_eq, decide_eq_true_eq] at this
        rcases hor with h | h <;> simp only [h, Bool.true_eq_false, false_and, and_false, false_or] at this <;> omega
      · have := apartH_spec _ _ hap j' j g' g q' q hgt hg' hg hq' hq
        simp only [apartB, Bool.or_eq_true, Bool.and_eq_true, Bool.not_eq_true', bne_iff_ne, ne_eq, decide_eq_true_eq] at this
        rcases hor with h | h <;> simp only [h, Bool.true_eq_false, false_and, and_false, false_or] at this <;> omega
    · exact hM.disj q.1 q'.1 G G' b b' hG hG' hb hb' hqq (hor.imp hGw hGw') (q.2 + i) (q'.2 + i') (by omega) (by omega) ⟨k1, by omega⟩
  · intro j g x hg hxj hrw hlt i hi
    obtain ⟨q, b, hq, hb, rfl⟩ := base j x hxj
    obtain ⟨g', hg', hins, hrw', hle⟩ := hHs' j g q hg hq
    have := hM.wr q.1 g' b hg' hb (hrw' hrw) hlt (q.2 + i) (by omega)
    simpa [Nat.add_assoc] using this
  · intro j g x hg hxj hn hrw
    obtain ⟨q, b, hq, hb, rfl⟩ := base j x hxj
    obtain ⟨g', hg', hins, hrw', hle⟩ := hHs' j g q hg hq
    exact hM.new q.1 g' b hg' hb (hr0 j g q hg hq hn hrw) (hrw' hrw)
  · have := hnit g (List.mem_of_getElem? hg)
    simp [hit] at this
  · have := hnit g (List.mem_of_getElem? hg)
    cases hgi : g.it with
    | none => rw [hgi] at hit; cases hit
    | some q => simp [hgi] at this
  · have := hnit g (List.mem_of_getElem? hg)
    simp [hb] at this

theorem Mem.shift {ρi ρc outs : Env} {β : Base} {hp : List Reg} (hρ : Ext ρi ρc) (h : Mem S0 (ρi ++ outs) β hp w0 w) (hnb : ∀ g ∈ hp, (g.it.isNone && g.bulk.isNone) = true) : Mem S0 (ρc ++ outs) β (hp.map fun g => { g with cs := g.cs.map (shiftS ρi.length ρc.length) }) w0 w := by
  have look : ∀ (r : Nat) (g : Reg), (hp.map fun g => ({ g with cs := g.cs.map (shiftS ρi.length ρc.length) } : Reg))[r]? = some g → ∃ g0, hp[r]? = some g0 ∧ g = { g0 with cs := g0.cs.map (shiftS ρi.length ρc.length) } := fun r g e => by
    rw [List.getElem?_map] at e
    cases hg : hp[r]? with
    | none => rw [hg] at e; cases e
    | some g0 => rw [hg] at e; exact ⟨g0, rfl, (Option.some.inj e).symm⟩
  refine ⟨by simp [h.len], ?_, ?_, ?_, ?_, h.keep, fun r g x e ex hn hw => by
    obtain ⟨g0, e0, rfl⟩ := look r g e
    exact h.new r g0 x e0 ex hn hw, ?_, ?_, fun r g x i e ex hb => by
    obtain ⟨g0, e0, rfl⟩ := look r g e
    have := hnb g0 (List.mem_of_getElem? e0)
    simp only at hb
    simp [hb] at this⟩
  · intro r g x e ex i c hc
    obtain ⟨g0, e0, rfl⟩ := look r g e
    simp only [List.getElem?_map] at hc
    cases hd : g0.cs[i]? with
    | none => rw [hd] at hc; cases hc
    | some d =>
      rw [hd] at hc
      obtain rfl := Option.some.inj hc
      obtain ⟨v, hv, hR⟩ := h.cell r g0 x e0 ex i d hd
      exact ⟨v, hv, shiftS_R hρ d v hR⟩
  · intro r g x e ex hw i hi
    obtain ⟨g0, e0, rfl⟩ := look r g e
    exact h.free r g0 x e0 ex hw i (by simpa using hi)
  · intro r r' g g' x x' e e' ex ex' hne hor i j hi hj
    obtain ⟨g0, e0, rfl⟩ := look r g e
    obtain ⟨g1, e1, rfl⟩ := look r' g' e'
    exact h.disj r r' g0 g1 x x' e0 e1 ex ex' hne hor i j (by simpa using hi) (by simpa using hj)
  · intro r g x e ex hw hb i hi
    obtain ⟨g0, e0, rfl⟩ := look r g e
    exact h.wr r g0 x e0 ex hw hb i (by simpa using hi)
  · intro r g x s p e ex hit
    obtain ⟨g0, e0, rfl⟩ := look r g e
    exact h.iter r g0 x s p e0 ex hit
  · intro r r' g g' x x' e e' ex ex' hi hi' hne
    obtain ⟨g0, e0, rfl⟩ := look r g e
    obtain ⟨g1, e1, rfl⟩ := look r' g' e'
    exact h.itd r r' g0 g1 x x' e0 e1 ex ex' hi hi' hne

theorem startAt_spec {n : Nat} : ∀ (gs : List Reg) (qs : List (Nat × Nat)) (k : Nat), startAt n gs qs k = true → ∀ (j : Nat) g q, gs[j]? = some g → qs[j]? = some q → n ≤ k + j → g.rw = true → n ≤ q.1
  | g :: gs, q :: qs, k, h, 0, c, a, ec, e, hn, hw => by
    simp at e ec; subst e ec
    simp only [startAt, Bool.and_eq_true, Bool.or_eq_true, decide_eq_true_eq, Bool.not_eq_true', hw] at h
    rcases h.1 with (h | h) | h
    · omega
    · cases h
    · exact h
  | g :: gs, q :: qs, k, h, j + 1, c, a, ec, e, hn, hw => by
    simp only [startAt, Bool.and_eq_true] at h
    exact startAt_spec gs qs (k + 1) h.2 j c a (by simpa using ec) (by simpa using e) (by omega) hw
  | [], _, _, _, j, c, a, ec, _, _, _ => by simp at ec
  | _ :: _, [], _, _, j, c, a, _, e, _, _ => by simp at e
theorem idFirst_spec {β βi : Base} (hβ : Ext βi β) : ∀ (n k : Nat) (qs : List (Nat × Nat)), idFirst n k qs = true → k + n = βi.length → ∃ t, qs.map (baseOf β) = βi.drop k ++ t
  | 0, k, qs, _, hk => ⟨qs.map (baseOf β), by rw [List.drop_of_length_le (by omega)]; rfl⟩
  | n + 1, k, q :: qs, h, hk => by
    simp only [idFirst, Bool.and_eq_true, beq_iff_eq] at h
    obtain ⟨⟨h1, h2⟩, h3⟩ := h
    obtain ⟨t, ht⟩ := idFirst_spec hβ n (k + 1) qs h3 (by omega)
    refine ⟨t, ?_⟩
    have hlt : k < βi.length := by omega
    have hb := hβ.get (List.getElem?_eq_getElem hlt)
    rw [List.map_cons, ht, List.drop_eq_getElem_cons hlt, List.cons_append]
    congr 1
    simp [baseOf, h1, h2, hb]
  | _ + 1, _, [], h, _ => by cases h
theorem idSrc_spec {ρ ρi : Env} (hρ : Ext ρi ρ) : ∀ (n k : Nat) (xs os : List Src), idSrc n k xs = some os → k + n = ρi.length → xs.map (Src.ev ρ) = ρi.drop k ++ os.map (Src.ev ρ)
  | 0, k, xs, os, h, hk => by
    obtain rfl := Option.some.inj h
    rw [List.drop_of_length_le (by omega)]; rfl
  | n + 1, k, .v i :: xs, os, h, hk => by
    simp only [idSrc] at h
    split at h
    · rename_i hi
      subst hi
      have hlt : i < ρi.length := by omega
      have hb := hρ.get (List.getElem?_eq_getElem hlt)
      rw [List.map_cons, idSrc_spec hρ n (i + 1) xs os h (by omega), List.drop_eq_getElem_cons hlt, List.cons_append]
      congr 1
      simp [Src.ev, List.getD, hb]
    · cases h
  | _ + 1, _, .c _ :: _, _, h, _ => by cases h
  | _ + 1, _, [], _, h, _ => by cases h
theorem idSrc_length : ∀ (n k : Nat) (xs os : List Src), idSrc n k xs = some os → xs.length = n + os.length
  | 0, k, xs, os, h => by obtain rfl := Option.some.inj h; simp
  | n + 1, k, .v i :: xs, os, h => by
    simp only [idSrc] at h
    split at h
    · simp [idSrc_length n (k + 1) xs os h]; omega
    · cases h
  | _ + 1, _, .c _ :: _, _, h => by cases h
  | _ + 1, _, [], _, h => by cases h

theorem gets_R {ρ : Env} {β : Base} {fr : Tr AV} {nt : Nat} {a : Act} (hf : FrR ρ β fr nt a) {m : List (Nat × Nat)} {xs : List Src} : ∀ (l : List (Tmp × AV)) (us : List AV), getsX fr l = some us → instVs m xs l us = true →
    ∀ t c, (t, c) ∈ l → c.R (xs.map (Src.ev ρ)) (m.map (baseOf β)) (a.tmps.getD t undef)
  | [], us, _, _, t, c, h => by cases h
  | (t0, c0) :: l, us, hg, hi, t, c, h => by
    simp only [getsX] at hg
    split at hg
    · rename_i v vs hv hvs
      obtain rfl := Option.some.inj hg
      simp only [instVs, Bool.and_eq_true] at hi
      rcases List.mem_cons.1 h with e | e
      · cases e
        exact instV_R hi.1 (hf.fr _ v hv)
      · exact gets_R hf l vs hvs hi.2 t c e
    · cases hg

theorem CutS.openK_eq {β : Type} (c : CutS) (n0 b nt : Nat) (k : St → β) : c.openK n0 b nt k = k (c.openS n0 b nt) := by
  obtain ⟨t', h, _⟩ := fillFr_spec n0 b c.fr .e
  simp only [CutS.openK, CutS.openS, h, forceK_spec, normH_spec]
/-- An instance of the loop's state is that state at other numbers. -/
theorem CutS.fit_sound {cs : CutS} {ρi ρ ρc : Env} {βi β : Base} {st : St} {a : Act} {os : List Src} (hS : S0.n0 = βi.length) (h : cs.fit ρi.length βi.length st = some os) (hρ : Ext ρi ρ) (hβ : Ext βi β) (hc : Ext ρi ρc) (hr : Rel S0 ρ β w0 st a w) :
    os.length = cs.n ∧ ∃ β', Ext βi β' ∧ Rel S0 (ρc ++ os.map (Src.ev ρ)) β' w0 (cs.openS ρi.length ρc.length st.nt) a w := by
  unfold CutS.fit at h
  split at h
  · cases h
  · rename_i us hus
    split at h
    split at h
    · rename_i m os' hm hxs
      split at h
      · rename_i hall
        obtain rfl := Option.some.inj h
        simp only [Bool.and_eq_true, List.all_eq_true] at hall
        obtain ⟨⟨⟨⟨⟨h1', h2'⟩, h3⟩, h4a⟩, h5⟩, h6⟩ := hall
        have h1 := instGVs_V _ _ h1'
        have h2 := chkG_H _ _ h2'
        have h4 : ∀ g ∈ cs.hp, (g.it.isNone && g.bulk.isNone) = true := fun g hg => by simp [h4a g hg]
        have el := srcsOf_length _ _ _ hxs
        have exs : (idSrcs ρi.length ++ os').map (Src.ev ρ) = ρi ++ os'.map (Src.ev ρ) := by rw [List.map_append, map_ids hρ]
        obtain ⟨nb, ems⟩ := idFirst_spec hβ _ 0 m h6 (by omega)
        rw [List.drop_zero] at ems
        have hM1 := hr.mem.inst h2 h3 h4 (fun j g q eg e hn hw => by rw [hS] at hn ⊢; exact startAt_spec cs.hp m 0 h5 j g q eg e (by omega) hw)
        rw [exs, ems] at hM1
        have hM2 := hM1.shift hc h4
        obtain ⟨t', ht1, ht2⟩ := fillFr_spec ρi.length ρc.length cs.fr .e
        have est : cs.openS ρi.length ρc.length st.nt = ⟨t', st.nt, cs.hp.map fun g => { g with cs := g.cs.map (shiftS ρi.length ρc.length) }, ρc.length + cs.n⟩ := by
          simp only [CutS.openS, CutS.openK, ht1, forceK_spec, normH_spec]
        refine ⟨el, βi ++ nb, Ext.app _ _, ?_⟩
        rw [est]
        refine Rel.mk' ⟨hr.tm, fun t v e => ?_, hr.df⟩ hM2 (by simp; omega)
        rcases ht2 t v e with h' | ⟨c, hc', rfl⟩
        · simp [Tr.get] at h'
        · have := gets_R hr.fr' cs.fr us hus h1 t c hc'
          rw [exs, ems] at this
          exact shiftV_R hc c _ this
      · cases h
    · cases h

theorem Post.lower {rels : Nat → RelSpec} {Q0 : Env → AV → List Reg → Prop} {ρb ρb' : Env} {βb : Base} {k : St → Tree} {a : Act} {w : World} (h : Ext ρb ρb') (hp : Post rels Q0 S0 w0 ρb' βb k a w) : Post rels Q0 S0 w0 ρb βb k a w := by
  obtain ⟨ρ, β, st, h1, h2, h3, h4⟩ := hp
  exact ⟨ρ, β, st, h.trans h1, h2, h3, h4⟩

theorem map_from {ρ outs ρ' : Env} (h : Ext (ρ ++ outs) ρ') : (srcsFrom ρ.length outs.length).map (Src.ev ρ') = outs := by
  apply List.ext_getElem?
  intro i
  simp only [srcsFrom, List.map_map, List.getElem?_map]
  by_cases hi : i < outs.length
  · have hg : (ρ ++ outs)[ρ.length + i]? = some outs[i] := by rw [List.getElem?_append_right (by omega)]; simp [hi]
    have := h.get hg
    simp [List.getElem?_range, hi, Src.ev, this]
  · simp [hi, List.getElem?_eq_none (Nat.le_of_not_lt hi)]

theorem codeC_sound {X : Exts} (hX : ExtOk P X) (hm : P.follows .mixedOrders = true) {rels : Nat → RelSpec} {Q0 : Env → AV → List Reg → Prop} {call : CallT} (hcall : CallOk P rels Q0 S0 w0 call) {isCut : Code → Bool} {strat : Code → St → Option CutS} {ρi : Env} {βi : Base} (hS : S0.n0 = βi.length)
    (hstrat : ∀ c st cs, strat c st = some cs → CutOk rels ρi.length cs.n cs.id) :
    ∀ (n : Nat) (c : Code) (K : Kont) (Q : Exit → Act → World → Prop) (ρb : Env), Ext ρi ρb → KOk rels Q0 S0 w0 ρb βi K Q → ∀ a w, Post rels Q0 S0 w0 ρb βi (fun st => codeC P X call isCut strat ρi.length βi.length n c st K) a w → c.wp P Q a w := by
  intro n
  induction n using Nat.strongRecOn with
  | _ n ih =>
    intro c K Q ρb hb hK a w hp
    cases n with
    | zero => obtain ⟨ρ, β, st, _, _, h, _⟩ := hp; exact h.elim
    | succ n =>
      cases c with
      | skip => exact wp_skip (hK.nrm a w hp)
      | region id ops draw => exact regionX_sound hX hm hcall hK.nrm hK.pan hp
      | seq x y =>
        refine wp_seq (ih n (by omega) x { K with nrm := fun st => codeC P X call isCut strat ρi.length βi.length n y st K } (Exit.then (y.wp P Q) Q) ρb hb ⟨?_, hK.ret, hK.ext, hK.pan⟩ a w hp)
        exact fun a w h => ih n (by omega) y K Q ρb hb hK a w h
      | cond x y z =>
        obtain ⟨ρ, β, st, hρ, hβ, h, hr⟩ := hp
        simp only [codeC] at h
        split at h
        · rename_i t hx
          have hv := evX_R hr.fr' x
          rw [hx] at hv
          cases t with
          | true => exact wp_cond_true hv (ih n (by omega) y K Q ρb hb hK a w ⟨ρ, β, st, hρ, hβ, h, hr⟩)
          | false => exact wp_cond_false hv (ih n (by omega) z K Q ρb hb hK a w ⟨ρ, β, st, hρ, hβ, h, hr⟩)
        · rename_i i hx
          have hv := evX_R hr.fr' x
          rw [hx] at hv
          obtain ⟨m, hm', hv⟩ := hv
          obtain ⟨h1, h2⟩ := h
          rw [getD_of hm'] at h1 h2
          by_cases h0 : m = 0
          · exact wp_cond_false (by rw [hv]; simp [h0]) (ih n (by omega) z K Q ρb hb hK a w ⟨ρ, β, st, hρ, hβ, h2 h0, hr⟩)
          · exact wp_cond_true (by rw [hv]; simp [h0]) (ih n (by omega) y K Q ρb hb hK a w ⟨ρ, β, st, hρ, hβ, h1 h0, hr⟩)
        · exact h.elim
      | block id b =>
        refine wp_block (ih n (by omega) b { K with ext := fun i st => if i = id then K.nrm st else K.ext i st } (Exit.inBlock id Q) ρb hb ⟨hK.nrm, hK.ret, fun i a w h => ?_, hK.pan⟩ a w hp)
        show (if i = id then Q .normal a w else Q (.exit i) a w)
        by_cases hi : i = id
        · rw [if_pos hi]
          refine hK.nrm a w ?_
          simpa [hi] using h
        · rw [if_neg hi]
          refine hK.ext i a w ?_
          simpa [hi] using h
      | loop b =>
        obtain ⟨ρ, β, st, hρ, hβ, h, hr⟩ := hp
        simp only [codeC] at h
        split at h
        · rename_i hcut
          refine wp_loop_n (fun m a w => m ≤ n + 1 ∧ Post rels Q0 S0 w0 ρb βi (fun st => codeC P X call isCut strat ρi.length βi.length m (.loop b) st K) a w) (fun a w h => ?_) (fun m a w h => ?_) (n + 1) a w
            ⟨Nat.le_refl _, ρ, β, st, hρ, hβ, by simpa only [codeC, hcut, if_true] using h, hr⟩
          · obtain ⟨_, ρ, β, st, _, _, h, _⟩ := h; exact h.elim
          · obtain ⟨hmn, h⟩ := h
            simp only [codeC, hcut, if_true] at h
            refine ih m (by omega) b { K with nrm := fun st => codeC P X call isCut strat ρi.length βi.length m (.loop b) st K } (Exit.then (fun a w => m ≤ n + 1 ∧ Post rels Q0 S0 w0 ρb βi (fun st => codeC P X call isCut strat ρi.length βi.length m (.loop b) st K) a w) Q) ρb hb ⟨fun a w h => ⟨by omega, h⟩, hK.ret, hK.ext, hK.pan⟩ a w h
        · split at h
          · exact h.elim
          · rename_i cs hst
            split at h
            · exact h.elim
            · rename_i os hos
              rw [forceK_spec, forceK_spec, hr.nv] at h
              obtain ⟨hpre, hpost⟩ := h
              obtain ⟨μ, hin, hback⟩ := hstrat b st cs hst
              obtain ⟨hol, β1, hβ1, hr1⟩ := CutS.fit_sound hS hos (hb.trans hρ) hβ (hb.trans hρ) hr
              have eids : (idSrcs ρi.length).map (Src.ev ρ) = ρi := map_ids (hb.trans hρ)
              rw [List.map_append, eids] at hpre hpost
              refine wp_loop_n (fun m a w => ∃ outs : List Int, outs.length = cs.n ∧ (rels cs.id).pre (ρi ++ outs) ∧ μ (ρi ++ outs) < m ∧ ∃ β', Ext βi β' ∧ Rel S0 (ρ ++ outs) β' w0 (cs.openS ρi.length ρ.length st.nt) a w)
                (fun a w h => ?_) (fun m a w h => ?_) (μ (ρi ++ os.map (Src.ev ρ)) + 1) a w ⟨os.map (Src.ev ρ), by simp [hol], hpre, Nat.lt_succ_self _, β1, hβ1, hr1⟩
              · obtain ⟨_, _, _, h, _⟩ := h; exact absurd h (Nat.not_lt_zero _)
              · obtain ⟨outs, hl, hinv, hμ, β', hβ', hr'⟩ := h
                have hvc := alln_spec cs.n _ hpost outs hl (hin ρi _ outs rfl (by simp [hol]) hl hinv)
                rw [CutS.openK_eq] at hvc
                refine ih n (by omega) b _ (Exit.then _ Q) (ρ ++ outs) ((hb.trans hρ).trans (Ext.app _ _)) ⟨?_, ?_, ?_, hK.pan⟩ a w ⟨ρ ++ outs, β', _, Ext.refl _, hβ', hvc, hr'⟩
                · intro a2 w2 hp2
                  obtain ⟨ρ2, β2, st2, hρ2, hβ2, h2, hr2⟩ := hp2
                  simp only at h2
                  split at h2
                  · rename_i hnt
                    split at h2
                    · rename_i os2 hos2
                      have hb2 : Ext ρi ρ2 := ((hb.trans hρ).trans (Ext.app _ _)).trans hρ2
                      have hpre2 := h2.1
                      rw [List.map_append, List.map_append, map_ids hb2, ← hl, map_from hρ2] at hpre2
                      obtain ⟨hol2, β3, hβ3, hr3⟩ := CutS.fit_sound hS hos2 hb2 hβ2 (hb.trans hρ) hr2
                      rw [hnt] at hr3
                      obtain ⟨k1, k2⟩ := hback ρi outs (os2.map (Src.ev ρ2)) rfl hl (by simp [hol2]) hpre2
                      exact ⟨os2.map (Src.ev ρ2), by simp [hol2], k1, by omega, β3, hβ3, hr3⟩
                    · exact h2.elim
                  · exact h2.elim
                · exact fun a w h => hK.ret a w (Post.lower (hρ.trans (Ext.app _ _)) h)
                · exact fun i a w h => hK.ext i a w (Post.lower (hρ.trans (Ext.app _ _)) h)
      | exit i => exact wp_exit (hK.ext i a w hp)
      | ret => exact wp_ret (hK.ret a w hp)
      | _ => obtain ⟨ρ, β, st, _, _, h, _⟩ := hp; exact h.elim

/-- A function whose loops are cut. -/
def topC (P : Program) (X : Exts) (tab : List (FuncId × Con)) (isCut : Code → Bool) (strat : Code → St → Option CutS) (f : FuncId) (args : List AV) (hp : List Reg) (nv : Nat) : Tree :=
  match P.funcs[f]? with
  | none => .bad 26
  | some fn => match fn.body with
    | none => .bad 27
    | some c =>
      if args.length ≤ fn.ntmps then
        entryK args 0 .e fun t => forceK hp.length fun r0 => codeC P X (callX P X tab 99) isCut strat nv r0 100000 c ⟨t, fn.ntmps, hp, nv⟩
          ⟨finX P fn ⟨.e, 0, hp, nv⟩ fun v st => .fin v st.hp, finX P fn ⟨.e, 0, hp, nv⟩ fun v st => .fin v st.hp, fun _ _ => .bad 28⟩
      else .bad 29

theorem finX_sound {rels : Nat → RelSpec} {Q0 : Env → AV → List Reg → Prop} {fn : Func} {st : St} {k : AV → St → Tree} {ρ : Env} {β : Base} {a : Act} {w' : World} (hp : Post rels Q0 S0 w0 ρ β (finX P fn st k) a w') : a.defers = [] ∧ ∃ v, (results fn a.tmps).run P w' = .ok v w' ∧
    ∃ v' ρ' β' av st', Ending.returned v = .returned v' ∧ Ext ρ ρ' ∧ Ext β β' ∧ (k av st').vc rels Q0 ρ' ∧ av.R ρ' β' v' ∧ Mem S0 ρ' β' st'.hp w0 w' := by
  obtain ⟨ρ', β', st', hρ', hβ', h', hr'⟩ := hp
  refine ⟨hr'.df, ?_⟩
  unfold finX at h'
  have hres : ∀ rs, resX P st'.fr st'.hp fn.results.toList = some rs → ∃ us : List Value, (results fn a.tmps).run P w' = .ok (if h : us.toArray.size = 1 then us.toArray[0] else .tuple us.toArray) w' ∧ All2 (A1.R ρ' β') rs us := by
    intro rs hrs
    obtain ⟨us, h1, h2⟩ := resX_sound (P := P) hr'.fr' hr'.mem fn.results.toList rs hrs
    refine ⟨us, ?_, h2⟩
    unfold results
    rw [Array.mapM_eq_mapM_toList]
    simp only [Sem.run_bind, Sem.run_map]
    exact congrArg (fun r : Result (List Value) => (r.andThen fun a w' => Result.ok a.toArray w').andThen fun (a : Array Value) w' => Result.ok (if h : a.size = 1 then a[0] else Value.tuple a) w') h1
  split at h'
  · rename_i x hx
    obtain ⟨us, h1, h2⟩ := hres _ hx
    rw [normK_spec] at h'
    match us, h2 with
    | [u], h2 =>
      exact ⟨u, by simpa using h1, u, ρ', β', _, _, rfl, hρ', hβ', h', h2.1, hr'.mem⟩
  · rename_i l hne hx
    obtain ⟨us, h1, h2⟩ := hres _ hx
    have hul : us.toArray.size ≠ 1 := by
      intro h
      have := h2.length
      simp at h
      match l, this with
      | [x], _ => exact hne x rfl
      | [], this => simp at this; omega
      | _ :: _ :: _, this => simp at this; omega
    rw [dif_neg hul] at h1
    exact ⟨_, h1, _, ρ', β', _, _, rfl, hρ', hβ', h', ⟨us, rfl, h2⟩, hr'.mem⟩
  · exact h'.elim

theorem topC_sound {rels : Nat → RelSpec} {Q0 : Env → AV → List Reg → Prop} {X : Exts} (hX : ExtOk P X) (hm : P.follows .mixedOrders = true) {tab : List (FuncId × Con)} (htab : ∀ f con, (f, con) ∈ tab → ConOk P rels f con)
    {isCut : Code → Bool} {strat : Code → St → Option CutS} {f : FuncId} {args : List AV} {vals : List Value} {hp : List Reg} {ρ : Env} {β : Base} (hS : S0.n0 = β.length) (hstrat : ∀ c st cs, strat c st = some cs → CutOk rels ρ.length cs.n cs.id)
    (hM : Mem S0 ρ β hp w0 w) (hargs : All2 (AV.R ρ β) args vals) (h : (topC P X tab isCut strat f args hp ρ.length).vc rels Q0 ρ) :
    Calls P f vals.toArray w fun e w' => ∃ v ρ' β' av hp', e = .returned v ∧ Ext ρ ρ' ∧ Ext β β' ∧ av.R ρ' β' v ∧ Mem S0 ρ' β' hp' w0 w' ∧ Q0 ρ' av hp' := by
  unfold topC at h
  split at h
  · exact h.elim
  · rename_i fn hfn
    split at h
    · exact h.elim
    · rename_i c hc
      split at h
      · rename_i hle
        obtain ⟨t, ht, hg⟩ := entryK_spec (ρ := ρ) (β := β) (nt := fn.ntmps) args 0 .e
        rw [ht, forceK_spec, hM.len] at h
        refine calls_of_wp hfn hc ?_
        have hlen : args.length = vals.length := hargs.length
        have hfr : FrR ρ β t fn.ntmps { tmps := vals.toArray ++ Array.replicate (fn.ntmps - vals.toArray.size) undef, defers := [] } := by
          refine ⟨by simp; omega, fun j v e => ?_, rfl⟩
          rw [hg] at e
          simp only [Nat.zero_le, true_and, Nat.zero_add, Nat.sub_zero, Tr.get] at e
          split at e
          · rename_i hj
            obtain ⟨u, hu, hR⟩ := hargs.get e
            have : (vals.toArray ++ Array.replicate (fn.ntmps - vals.toArray.size) undef).getD j undef = u := by
              rw [Array.getD_eq_getD_getElem?, Array.getElem?_append_left (by simp; omega)]
              simp [hu]
            rw [this]; exact hR
          · cases e
        have hfin : ∀ a w', Post rels Q0 S0 w0 ρ β (finX P fn ⟨.e, 0, hp, ρ.length⟩ fun v st => .fin v st.hp) a w' → a.defers = [] ∧ ∃ v, (results fn a.tmps).run P w' = .ok v w' ∧
            ∃ v' ρ' β' av hp', Ending.returned v = .returned v' ∧ Ext ρ ρ' ∧ Ext β β' ∧ av.R ρ' β' v' ∧ Mem S0 ρ' β' hp' w0 w' ∧ Q0 ρ' av hp' := fun a w' hp => by
          obtain ⟨h1, v, h2, v', ρ', β', av, st', h3, h4, h5, h6, h7, h8⟩ := finX_sound hp
          exact ⟨h1, v, h2, v', ρ', β', av, st'.hp, h3, h4, h5, h7, h8, h6⟩
        refine codeC_sound hX hm (callX_sound hX hm htab 99) hS hstrat 100000 c _ _ ρ (Ext.refl _) ⟨?_, ?_, ?_, ?_⟩ _ w ⟨ρ, β, _, Ext.refl _, Ext.refl _, h, Rel.mk' hfr hM rfl⟩
        · exact fun a w' hp => hfin a w' hp
        · exact fun a w' hp => hfin a w' hp
        · exact fun i a w' hp => by obtain ⟨_, _, _, _, _, h, _⟩ := hp; exact h.elim
        · intro ch a w' hq
          obtain ⟨_, v, _, _, _, _, he, _⟩ := hq
          cases he
      · exact h.elim
end

/-- The condition of a contract whose loops are cut. -/
def Can.condC (can : Can) (P : Program) (X : Exts) (tab : List (FuncId × Con)) (rels : Nat → RelSpec) (isCut : Code → Bool) (strat : Code → St → Option CutS) (f : FuncId) (n : Nat) : Prop :=
  alln can.kinds.length fun ρ => fitsC can.kinds ρ ((rels can.id).pre ρ → pushK ρ 0 .e fun nv g => (topC P X tab isCut strat f can.args can.hp nv).vcT rels can ρ n [] nv g)

theorem can_of_condC {P : Program} {rels : Nat → RelSpec} {X : Exts} (hX : ExtOk P X) (hm : P.follows .mixedOrders = true) {tab : List (FuncId × Con)} (htab : ∀ f con, (f, con) ∈ tab → ConOk P rels f con)
    {isCut : Code → Bool} {strat : Code → St → Option CutS} {f : FuncId} {can : Can} (n : Nat) (hocc : can.occ = true) (hstrat : ∀ c st cs, strat c st = some cs → CutOk rels can.kinds.length cs.n cs.id) (h : can.condC P X tab rels isCut strat f n) : CanOk P rels f can :=
  can_of_calls hocc fun w ρ β vals hM hl hargs hp hf => by
    have h1 := fitsC_spec _ _ _ (alln_spec _ _ h ρ hl) hf hp
    have h0 : InTr .e [] := fun i => by simp [Tr.get]
    obtain ⟨g', k1, k2⟩ := pushK_spec ρ .e [] h0
    have k2' := k2 fun nv g => (topC P X tab isCut strat f can.args can.hp nv).vcT rels can ρ n [] nv g
    simp only [List.nil_append, List.length_nil] at k2'
    rw [k2'] at h1
    simp only [List.nil_append] at k1
    refine topC_sound (S0 := canOld β can.hp) (isCut := isCut) hX hm htab (by simp [canOld, hM.len]) (by rw [hl]; exact hstrat) hM hargs ?_
    exact Tree.vc_of_vcT _ n [] ρ g' k1 (fun i b e => by simp [lookA] at e) h1
end Go.Sx

/- Integer operations of the conditions, as arithmetic. -/
namespace Go.Sx
open Go

theorem ofInt_and_mask (x : Int) (w n : Nat) (hn : n ≤ w) : ((BitVec.ofInt w x &&& BitVec.ofInt w (2 ^ n - 1 : Int)).toNat : Int) = x % 2 ^ n := by
  have hp : (0 : Int) < 2 ^ n := Int.pow_pos (by decide)
  have hle : (2 : Int) ^ n ≤ 2 ^ w := by
    have := Nat.pow_le_pow_right (show 0 < 2 by decide) hn
    exact_mod_cast this
  rw [BitVec.toNat_and, BitVec.toNat_ofInt, BitVec.toNat_ofInt]
  have h1 : ((2 ^ n - 1 : Int) % ((2 ^ w : Nat) : Int)).toNat = 2 ^ n - 1 := by
    have : ((2 ^ w : Nat) : Int) = (2 : Int) ^ w := by simp
    rw [this, Int.emod_eq_of_lt (by omega) (by omega)]
    have h2 : ((2 ^ n : Nat) : Int) = (2 : Int) ^ n := by simp
    omega
  rw [h1, Nat.and_two_pow_sub_one_eq_mod]
  have h3 : ((2 ^ n : Nat) : Int) = (2 : Int) ^ n := by simp
  have h4 : ((2 ^ w : Nat) : Int) = (2 : Int) ^ w := by simp
  rw [Int.natCast_emod, h3, h4]
  have hpw : (0 : Int) < 2 ^ w := Int.pow_pos (by decide)
  rw [Int.toNat_of_nonneg (Int.emod_nonneg _ (by omega))]
  exact Int.emod_emod_of_dvd _ (by
    refine ⟨2 ^ (w - n), ?_⟩
    rw [← Int.pow_add, Nat.add_sub_cancel' hn])

theorem and_u64 (n : Nat) (hn : n ≤ 64) (x : Int) : binFn .and .u64 x (2 ^ n - 1) = x % 2 ^ n := by
  show IntKind.wrap .u64 ((BitVec.ofInt 64 x &&& BitVec.ofInt 64 (2 ^ n - 1 : Int)).toNat : Int) = _
  rw [ofInt_and_mask x 64 n hn, wrap_u64]
  have hp : (0 : Int) < 2 ^ n := Int.pow_pos (by decide)
  have hle : (2 : Int) ^ n ≤ 2 ^ 64 := by
    have := Nat.pow_le_pow_right (show 0 < 2 by decide) hn
    exact_mod_cast this
  have h1 := Int.emod_nonneg x (show (2 : Int) ^ n ≠ 0 by omega)
  have h2 := Int.emod_lt_of_pos x hp
  rw [Int.emod_eq_of_lt h1 (by omega)]
theorem and_i64 (n : Nat) (hn : n ≤ 63) (x : Int) : binFn .and .i64 x (2 ^ n - 1) = x % 2 ^ n := by
  show IntKind.wrap .i64 ((BitVec.ofInt 64 x &&& BitVec.ofInt 64 (2 ^ n - 1 : Int)).toNat : Int) = _
  rw [ofInt_and_mask x 64 n (by omega), wrap_i64]
  have hp : (0 : Int) < 2 ^ n := Int.pow_pos (by decide)
  have hle : (2 : Int) ^ n ≤ 2 ^ 63 := by
    have := Nat.pow_le_pow_right (show 0 < 2 by decide) hn
    exact_mod_cast this
  have h1 := Int.emod_nonneg x (show (2 : Int) ^ n ≠ 0 by omega)
  have h2 := Int.emod_lt_of_pos x hp
  rw [Int.emod_eq_of_lt h1 (by omega), if_neg (by omega)]
theorem and_u8 (n : Nat) (hn : n ≤ 8) (x : Int) : binFn .and .u8 x (2 ^ n - 1) = x % 2 ^ n := by
  show IntKind.wrap .u8 ((BitVec.ofInt 8 x &&& BitVec.ofInt 8 (2 ^ n - 1 : Int)).toNat : Int) = _
  rw [ofInt_and_mask x 8 n hn, wrap_u8]
  have hp : (0 : Int) < 2 ^ n := Int.pow_pos (by decide)
  have hle : (2 : Int) ^ n ≤ 2 ^ 8 := by
    have := Nat.pow_le_pow_right (show 0 < 2 by decide) hn
    exact_mod_cast this
  have h1 := Int.emod_nonneg x (show (2 : Int) ^ n ≠ 0 by omega)
  have h2 := Int.emod_lt_of_pos x hp
  rw [Int.emod_eq_of_lt h1 (by omega)]

theorem and_u64_32 (x : Int) : binFn .and .u64 x 4294967295 = x % 4294967296 := and_u64 32 (by decide) x
theorem and_i64_32 (x : Int) : binFn .and .i64 x 4294967295 = x % 4294967296 := and_i64 32 (by decide) x
theorem and_i64_1 (x : Int) : binFn .and .i64 x 1 = x % 2 := and_i64 1 (by decide) x
theorem and_u64_1 (x : Int) : binFn .and .u64 x 1 = x % 2 := and_u64 1 (by decide) x
theorem and_u64_8 (x : Int) : binFn .and .u64 x 255 = x % 256 := and_u64 8 (by decide) x
theorem and_u64_64 (x : Int) : binFn .and .u64 x 18446744073709551615 = x % 18446744073709551616 := and_u64 64 (by decide) x
theorem and_u8_1 (x : Int) : binFn .and .u8 x 1 = x % 2 := and_u8 1 (by decide) x

theorem and_u8_8 (x : Int) : binFn .and .u8 x 255 = x % 256 := and_u8 8 (by decide) x

theorem add_u64 (x y : Int) : binFn .add .u64 x y = (x + y) % 18446744073709551616 := by simp [binFn, wrap_u64]
theorem sub_u64 (x y : Int) : binFn .sub .u64 x y = (x - y) % 18446744073709551616 := by simp [binFn, wrap_u64]
theorem mul_u64 (x y : Int) : binFn .mul .u64 x y = (x * y) % 18446744073709551616 := by simp [binFn, wrap_u64]
theorem add_i64 (x y : Int) (h : -9223372036854775808 ≤ x + y) (h' : x + y ≤ 9223372036854775807) : binFn .add .i64 x y = x + y := wrap_of_fits (k := .i64) ⟨h, h'⟩
theorem sub_i64 (x y : Int) (h : -9223372036854775808 ≤ x - y) (h' : x - y ≤ 9223372036854775807) : binFn .sub .i64 x y = x - y := wrap_of_fits (k := .i64) ⟨h, h'⟩
theorem mul_i64 (x y : Int) (h : -9223372036854775808 ≤ x * y) (h' : x * y ≤ 9223372036854775807) : binFn .mul .i64 x y = x * y := wrap_of_fits (k := .i64) ⟨h, h'⟩
theorem fdiv_pow (x : Int) (n : Nat) : x.fdiv (2 ^ n) = x / 2 ^ n := Int.fdiv_eq_ediv_of_nonneg _ (Int.le_of_lt (Int.pow_pos (by decide)))
theorem shr_u64_32 (x : Int) : binFn .shr .u64 x 32 = x / 4294967296 := fdiv_pow x 32
theorem shr_i64_32 (x : Int) : binFn .shr .i64 x 32 = x / 4294967296 := fdiv_pow x 32
theorem shr_u64_8 (x : Int) : binFn .shr .u64 x 8 = x / 256 := fdiv_pow x 8

theorem mul_le2 {x y a b : Int} (hx : 0 ≤ x) (hxa : x ≤ a) (hy : 0 ≤ y) (hyb : y ≤ b) : 0 ≤ x * y ∧ x * y ≤ a * b :=
  ⟨Int.mul_nonneg hx hy, Int.mul_le_mul hxa hyb hy (by omega)⟩
theorem add_small {x y : Int} (h0 : 0 ≤ x + y) (h1 : x + y ≤ 18446744073709551615) : binFn .add .u64 x y = x + y := wrap_of_fits (k := .u64) ⟨h0, h1⟩
theorem wrap_byte {x : Int} (h0 : 0 ≤ x) (h1 : x ≤ 255) : IntKind.u64.wrap x = x := wrap_of_fits (k := .u64) ⟨h0, by simp only [kmax]; omega⟩
theorem shl_byte_8 {x : Int} (h0 : 0 ≤ x) (h1 : x ≤ 255) : binFn .shl .u64 (IntKind.u64.wrap x) 8 = 256 * x := by
  rw [wrap_byte h0 h1]
  show IntKind.wrap .u64 (x * 2 ^ 8) = _
  rw [wrap_of_fits (k := .u64) ⟨by simp only [kmin]; omega, by simp only [kmax]; omega⟩]
  omega
theorem shl_byte_16 {x : Int} (h0 : 0 ≤ x) (h1 : x ≤ 255) : binFn .shl .u64 (IntKind.u64.wrap x) 16 = 65536 * x := by
  rw [wrap_byte h0 h1]
  show IntKind.wrap .u64 (x * 2 ^ 16) = _
  rw [wrap_of_fits (k := .u64) ⟨by simp only [kmin]; omega, by simp only [kmax]; omega⟩]
  omega
theorem shl_byte_24 {x : Int} (h0 : 0 ≤ x) (h1 : x ≤ 255) : binFn .shl .u64 (IntKind.u64.wrap x) 24 = 16777216 * x := by
  rw [wrap_byte h0 h1]
  show IntKind.wrap .u64 (x * 2 ^ 24) = _
  rw [wrap_of_fits (k := .u64) ⟨by simp only [kmin]; omega, by simp only [kmax]; omega⟩]
  omega
theorem shl_byte_32 {x : Int} (h0 : 0 ≤ x) (h1 : x ≤ 255) : binFn .shl .u64 (IntKind.u64.wrap x) 32 = 4294967296 * x := by
  rw [wrap_byte h0 h1]
  show IntKind.wrap .u64 (x * 2 ^ 32) = _
  rw [wrap_of_fits (k := .u64) ⟨by simp only [kmin]; omega, by simp only [kmax]; omega⟩]
  omega
theorem shl_byte_40 {x : Int} (h0 : 0 ≤ x) (h1 : x ≤ 255) : binFn .shl .u64 (IntKind.u64.wrap x) 40 = 1099511627776 * x := by
  rw [wrap_byte h0 h1]
  show IntKind.wrap .u64 (x * 2 ^ 40) = _
  rw [wrap_of_fits (k := .u64) ⟨by simp only [kmin]; omega, by simp only [kmax]; omega⟩]
  omega
theorem shl_byte_48 {x : Int} (h0 : 0 ≤ x) (h1 : x ≤ 255) : binFn .shl .u64 (IntKind.u64.wrap x) 48 = 281474976710656 * x := by
  rw [wrap_byte h0 h1]
  show IntKind.wrap .u64 (x * 2 ^ 48) = _
  rw [wrap_of_fits (k := .u64) ⟨by simp only [kmin]; omega, by simp only [kmax]; omega⟩]
  omega
theorem shl_byte_56 {x : Int} (h0 : 0 ≤ x) (h1 : x ≤ 255) : binFn .shl .u64 (IntKind.u64.wrap x) 56 = 72057594037927936 * x := by
  rw [wrap_byte h0 h1]
  show IntKind.wrap .u64 (x * 2 ^ 56) = _
  rw [wrap_of_fits (k := .u64) ⟨by simp only [kmin]; omega, by simp only [kmax]; omega⟩]
  omega
end Go.Sx

/- Steps of code over limbs of 64 bits. -/
namespace Go.Sx
open Go

theorem hi_le {a b A C h l : Int} (e : h * 18446744073709551616 + l = a * b) (hl : 0 ≤ l) (ha : a ≤ A) (hb : 0 ≤ b) (hC : A * b < (C + 1) * 18446744073709551616) : h ≤ C := by
  have h1 : a * b ≤ A * b := Int.mul_le_mul_of_nonneg_right ha hb
  generalize a * b = p at *
  generalize A * b = q at *
  omega

theorem add64_spec {x y c s o : Int} (x0 : 0 ≤ x) (x1 : x ≤ 18446744073709551615) (y0 : 0 ≤ y) (y1 : y ≤ 18446744073709551615) (c0 : 0 ≤ c) (c1 : c ≤ 1)
    (es : s = (x + y + c) % 18446744073709551616) (eo : o = (x + y + c) / 18446744073709551616) : 0 ≤ s ∧ s ≤ 18446744073709551615 ∧ 0 ≤ o ∧ o ≤ 1 ∧ x + y + c = s + 18446744073709551616 * o := by omega

theorem sub64_spec {x y c s o : Int} (x0 : 0 ≤ x) (x1 : x ≤ 18446744073709551615) (y0 : 0 ≤ y) (y1 : y ≤ 18446744073709551615) (c0 : 0 ≤ c) (c1 : c ≤ 1)
    (es : s = (x - y - c) % 18446744073709551616) (eo : o = (if x < y + c then 1 else 0)) : 0 ≤ s ∧ s ≤ 18446744073709551615 ∧ 0 ≤ o ∧ o ≤ 1 ∧ x - y - c = s - 18446744073709551616 * o := by
  split at eo <;> omega

theorem add_ok {x y A B r : Int} (x0 : 0 ≤ x) (x1 : x ≤ A) (y0 : 0 ≤ y) (y1 : y ≤ B) (h : A + B ≤ 18446744073709551615) (e : r = binFn .add .u64 x y) : 0 ≤ r ∧ r ≤ A + B ∧ r = x + y := by
  rw [add_small (by omega) (by omega)] at e
  omega

/-- The low limb of a reduction's step is 0. -/
theorem red_zero {x m h s o : Int} (e : h * 18446744073709551616 + m = x * 18446744073709551615) (q : x + m + 0 = s + 18446744073709551616 * o) (s0 : 0 ≤ s) (s1 : s ≤ 18446744073709551615) : s = 0 := by omega

theorem and_full {x : Int} (h0 : 0 ≤ x) (h1 : x ≤ 18446744073709551615) : binFn .and .u64 18446744073709551615 x = x := by
  show IntKind.wrap .u64 ((BitVec.ofInt 64 18446744073709551615 &&& BitVec.ofInt 64 x).toNat : Int) = _
  rw [BitVec.and_comm]
  have := and_u64_64 x
  rw [show binFn .and .u64 x 18446744073709551615 = IntKind.wrap .u64 ((BitVec.ofInt 64 x &&& BitVec.ofInt 64 18446744073709551615).toNat : Int) from rfl] at this
  rw [this]
  omega
theorem and_none {x : Int} : binFn .and .u64 0 x = 0 := by
  show IntKind.wrap .u64 ((BitVec.ofInt 64 0 &&& BitVec.ofInt 64 x).toNat : Int) = _
  have : BitVec.ofInt 64 0 = 0#64 := by decide
  rw [this, BitVec.zero_and]
  decide
theorem ofInt_toNat {x : Int} (h0 : 0 ≤ x) (h1 : x ≤ 18446744073709551615) : ((BitVec.ofInt 64 x).toNat : Int) = x := by
  rw [BitVec.toNat_ofInt]
  omega
theorem or_none_l {x : Int} (h0 : 0 ≤ x) (h1 : x ≤ 18446744073709551615) : binFn .or .u64 0 x = x := by
  show IntKind.wrap .u64 ((BitVec.ofInt 64 0 ||| BitVec.ofInt 64 x).toNat : Int) = _
  have : BitVec.ofInt 64 0 = 0#64 := by decide
  rw [this, BitVec.zero_or, ofInt_toNat h0 h1, wrap_u64]
  omega
theorem or_none_r {x : Int} (h0 : 0 ≤ x) (h1 : x ≤ 18446744073709551615) : binFn .or .u64 x 0 = x := by
  show IntKind.wrap .u64 ((BitVec.ofInt 64 x ||| BitVec.ofInt 64 0).toNat : Int) = _
  have : BitVec.ofInt 64 0 = 0#64 := by decide
  rw [this, BitVec.or_zero, ofInt_toNat h0 h1, wrap_u64]
  omega

/-- A choice by a mask. -/
theorem sel_u64 {c x y m a n b o : Int} (c0 : 0 ≤ c) (c1 : c ≤ 1) (x0 : 0 ≤ x) (x1 : x ≤ 18446744073709551615) (y0 : 0 ≤ y) (y1 : y ≤ 18446744073709551615)
    (e1 : m = binFn .mul .u64 c 18446744073709551615) (e2 : a = binFn .and .u64 m x) (e3 : n = unFn .xor .u64 m) (e4 : b = binFn .and .u64 n y) (e5 : o = binFn .or .u64 a b) :
    (c = 0 → o = y) ∧ (c = 1 → o = x) := by
  constructor
  · rintro rfl
    obtain rfl : m = 0 := by rw [e1]; decide
    obtain rfl : n = 18446744073709551615 := by rw [e3]; decide
    rw [and_none] at e2
    rw [and_full y0 y1] at e4
    rw [e5, e2, e4, or_none_l y0 y1]
  · rintro rfl
    obtain rfl : m = 18446744073709551615 := by rw [e1]; decide
    obtain rfl : n = 0 := by rw [e3]; decide
    rw [and_none] at e4
    rw [and_full x0 x1] at e2
    rw [e5, e2, e4, or_none_r x0 x1]
end Go.Sx
