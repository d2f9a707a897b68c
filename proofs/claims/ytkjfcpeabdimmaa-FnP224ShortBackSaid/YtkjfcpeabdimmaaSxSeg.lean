/- A function's run in two parts: the first statements end in a canonical state, the rest is run from there. -/
import Derived.Test.YtkjfcpeabdimmaaSxLoop
set_option linter.unusedVariables false
set_option linter.unusedSimpArgs false
set_option linter.constructorNameAsVariable false
namespace Go.Sx
open Go

/-- The first k statements; then the stop. -/
def spineL (P : Program) (X : Exts) (call : CallT) (strat : Code → St → Option LoopS) (stopK : St → Tree) : Nat → Code → St → Kont → Tree
  | 0, _, st, _ => stopK st
  | k + 1, c, st, K => match c with
    | .seq a b => codeL P X call strat 100000 a st { K with nrm := fun st => spineL P X call strat stopK k b st K }
    | _ => .bad 88
def restC : Nat → Code → Code
  | 0, c => c
  | k + 1, c => match c with
    | .seq _ b => restC k b
    | c => c
def CutS.stopK (cs : CutS) (n0 r0 nt : Nat) (st : St) : Tree :=
  if st.nt = nt then (match cs.fit n0 r0 st with
    | some os => .ins (.call (cs.id + 1000) (idSrcs n0 ++ os) 0) (.bad 83)
    | none => .bad 84) else .bad 85
def finK (P : Program) (fn : Func) : Kont := ⟨finX P fn ⟨.e, 0, [], 0⟩ fun v st => .fin v st.hp, finX P fn ⟨.e, 0, [], 0⟩ fun v st => .fin v st.hp, fun _ _ => .bad 28⟩

section
variable {P : Program} {S0 : Old} {w0 w : World} {rels : Nat → RelSpec} {Q0 : Env → AV → List Reg → Prop}
theorem spineL_sound {X : Exts} (hX : ExtOk P X) (hm : P.follows .mixedOrders = true) {call : CallT} (hcall : CallOk P rels Q0 S0 w0 call) {strat : Code → St → Option LoopS}
    (hstrat : ∀ c st cs, strat c st = some cs → CutOk rels cs.sel.length cs.n cs.id) {stopK : St → Tree} {ρb : Env} {βb : Base} {K : Kont} {Q : Exit → Act → World → Prop} (hK : KOk rels Q0 S0 w0 ρb βb K Q) :
    ∀ (k : Nat) (c : Code), (∀ a w, Post rels Q0 S0 w0 ρb βb stopK a w → (restC k c).wp P Q a w) → ∀ a w, Post rels Q0 S0 w0 ρb βb (fun st => spineL P X call strat stopK k c st K) a w → c.wp P Q a w
  | 0, c, hs, a, w, hp => hs a w hp
  | k + 1, c, hs, a, w, hp => by
    cases c with
    | seq x y =>
      refine wp_seq (codeL_sound hX hm hcall hstrat 100000 x { K with nrm := fun st => spineL P X call strat stopK k y st K } (Exit.then (y.wp P Q) Q) ρb βb ⟨?_, hK.ret, hK.ext, hK.pan⟩ a w hp).wp
      exact fun a w h => spineL_sound hX hm hcall hstrat hK k y hs a w h
    | _ => obtain ⟨ρ, β, st, _, _, h, _⟩ := hp; exact h.elim
theorem CutS.stop_sound {cs : CutS} {nt : Nat} {ρi : Env} {βi : Base} (hS : S0.n0 = βi.length) {a : Act} (hp : Post rels Q0 S0 w0 ρi βi (cs.stopK ρi.length βi.length nt) a w) :
    ∃ outs : List Int, outs.length = cs.n ∧ (rels (cs.id + 1000)).pre (ρi ++ outs) ∧ ∃ β', Ext βi β' ∧ Rel S0 (ρi ++ outs) β' w0 (cs.openS ρi.length ρi.length nt) a w := by
  obtain ⟨ρ, β, st, hρ, hβ, h, hr⟩ := hp
  unfold CutS.stopK at h
  split at h
  · rename_i hnt
    split at h
    · rename_i os hos
      have hpre := h.1
      rw [List.map_append, map_ids hρ] at hpre
      obtain ⟨h1, β', h2, h3⟩ := CutS.fit_sound hS hos hρ hβ (Ext.refl ρi) hr
      rw [hnt] at h3
      exact ⟨_, by simpa using h1, hpre, β', h2, h3⟩
    · exact h.elim
  · exact h.elim
end

/-- What is left of a function, from the canonical state on: whatever follows goes through. -/
def RestOk (P : Program) (rels : Nat → RelSpec) (fn : Func) (can : Can) (cs : CutS) (c : Code) : Prop :=
  ∀ (S0 : Old) (w0 w : World) (ρi outs : Env) (βi β' : Base) (a : Act) (Q : Exit → Act → World → Prop), S0.n0 = βi.length → ρi.length = can.kinds.length → βi.length = can.hp.length → outs.length = cs.n → (rels (cs.id + 1000)).pre (ρi ++ outs) → Ext βi β' →
    KOk rels (can.endQ rels ρi) S0 w0 ρi βi (finK P fn) Q → Rel S0 (ρi ++ outs) β' w0 (cs.openS can.kinds.length can.kinds.length fn.ntmps) a w → c.wp P Q a w

def RestCond (P : Program) (X : Exts) (tab : List (FuncId × Con)) (rels : Nat → RelSpec) (isCut : Code → Bool) (strat : Code → St → Option CutS) (fn : Func) (can : Can) (cs : CutS) (c : Code) (n : Nat) : Prop :=
  alln (can.kinds.length + cs.n) fun ρ => (rels (cs.id + 1000)).pre ρ → pushK ρ 0 .e fun nv g => (cs.openK can.kinds.length can.kinds.length fn.ntmps fun st => codeC P X (callX P X tab 99) isCut strat can.kinds.length can.hp.length 100000 c st (finK P fn)).vcT rels can (ρ.take can.kinds.length) n [] nv g
theorem restC_of {P : Program} {X : Exts} (hX : ExtOk P X) (hm : P.follows .mixedOrders = true) {rels : Nat → RelSpec} {tab : List (FuncId × Con)} (htab : ∀ f con, (f, con) ∈ tab → ConOk P rels f con) {isCut : Code → Bool} {strat : Code → St → Option CutS}
    {fn : Func} {can : Can} {cs : CutS} {c : Code} (n : Nat) (hstrat : ∀ c st cs, strat c st = some cs → CutOk rels can.kinds.length cs.n cs.id)
    (h : RestCond P X tab rels isCut strat fn can cs c n) :
    RestOk P rels fn can cs c := by
  intro S0 w0 w ρi outs βi β' a Q hS hl hlb ho hpre hβ hK hr
  have h1 := alln_spec _ _ h (ρi ++ outs) (by simp [hl, ho]) hpre
  have h0 : InTr .e [] := fun i => by simp [Tr.get]
  obtain ⟨g', k1, k2⟩ := pushK_spec (ρi ++ outs) .e [] h0
  have k2' := k2 fun nv g => (cs.openK can.kinds.length can.kinds.length fn.ntmps fun st => codeC P X (callX P X tab 99) isCut strat can.kinds.length can.hp.length 100000 c st (finK P fn)).vcT rels can ((ρi ++ outs).take can.kinds.length) n [] nv g
  simp only [List.nil_append, List.length_nil] at k2'
  rw [k2', CutS.openK_eq, ← hl, List.take_left] at h1
  simp only [List.nil_append] at k1
  have hvc := Tree.vc_of_vcT _ n [] (ρi ++ outs) g' k1 (fun i b e => by simp [lookA] at e) h1
  rw [← hl] at hr hstrat
  rw [← hlb] at hvc
  exact codeC_sound hX hm (callX_sound hX hm htab 99) hS hstrat 100000 c (finK P fn) Q (ρi ++ outs) (Ext.app _ _) ⟨fun a w hp => hK.nrm a w (Post.lower (Ext.app _ _) hp), fun a w hp => hK.ret a w (Post.lower (Ext.app _ _) hp), fun i a w hp => hK.ext i a w (Post.lower (Ext.app _ _) hp), hK.pan⟩ a w ⟨ρi ++ outs, β', _, Ext.refl _, hβ, hvc, hr⟩

def RestCondL (P : Program) (X : Exts) (tab : List (FuncId × Con)) (rels : Nat → RelSpec) (strat : Code → St → Option LoopS) (fn : Func) (can : Can) (cs : CutS) (c : Code) (n : Nat) : Prop :=
  alln (can.kinds.length + cs.n) fun ρ => (rels (cs.id + 1000)).pre ρ → pushK ρ 0 .e fun nv g => (cs.openK can.kinds.length can.kinds.length fn.ntmps fun st => codeL P X (callX P X tab 99) strat 100000 c st (finK P fn)).vcT rels can (ρ.take can.kinds.length) n [] nv g
theorem restL_of {P : Program} {X : Exts} (hX : ExtOk P X) (hm : P.follows .mixedOrders = true) {rels : Nat → RelSpec} {tab : List (FuncId × Con)} (htab : ∀ f con, (f, con) ∈ tab → ConOk P rels f con) {strat : Code → St → Option LoopS}
    {fn : Func} {can : Can} {cs : CutS} {c : Code} (n : Nat) (hstrat : ∀ c st cs, strat c st = some cs → CutOk rels cs.sel.length cs.n cs.id)
    (h : RestCondL P X tab rels strat fn can cs c n) : RestOk P rels fn can cs c := by
  intro S0 w0 w ρi outs βi β' a Q hS hl hlb ho hpre hβ hK hr
  have h1 := alln_spec _ _ h (ρi ++ outs) (by simp [hl, ho]) hpre
  have h0 : InTr .e [] := fun i => by simp [Tr.get]
  obtain ⟨g', k1, k2⟩ := pushK_spec (ρi ++ outs) .e [] h0
  have k2' := k2 fun nv g => (cs.openK can.kinds.length can.kinds.length fn.ntmps fun st => codeL P X (callX P X tab 99) strat 100000 c st (finK P fn)).vcT rels can ((ρi ++ outs).take can.kinds.length) n [] nv g
  simp only [List.nil_append, List.length_nil] at k2'
  rw [k2', CutS.openK_eq, ← hl, List.take_left] at h1
  simp only [List.nil_append] at k1
  have hvc := Tree.vc_of_vcT _ n [] (ρi ++ outs) g' k1 (fun i b e => by simp [lookA] at e) h1
  rw [← hl] at hr
  exact (codeL_sound hX hm (callX_sound hX hm htab 99) hstrat 100000 c (finK P fn) Q (ρi ++ outs) βi ⟨fun a w hp => hK.nrm a w (Post.lower (Ext.app _ _) hp), fun a w hp => hK.ret a w (Post.lower (Ext.app _ _) hp), fun i a w hp => hK.ext i a w (Post.lower (Ext.app _ _) hp), hK.pan⟩ a w ⟨ρi ++ outs, β', _, Ext.refl _, hβ, hvc, hr⟩).wp

/-- The first part of a function. -/
def topS (P : Program) (X : Exts) (tab : List (FuncId × Con)) (strat : Code → St → Option LoopS) (cs : CutS) (k : Nat) (f : FuncId) (args : List AV) (hp : List Reg) (nv : Nat) : Tree :=
  match P.funcs[f]? with
  | none => .bad 26
  | some fn => match fn.body with
    | none => .bad 27
    | some c =>
      if args.length ≤ fn.ntmps then
        entryK args 0 .e fun t => forceK hp.length fun r0 => forceK nv fun n0 => spineL P X (callX P X tab 99) strat (cs.stopK n0 r0 fn.ntmps) k c ⟨t, fn.ntmps, hp, nv⟩ (finK P fn)
      else .bad 29

theorem topS_sound {P : Program} {S0 : Old} {w0 w : World} {rels : Nat → RelSpec} {X : Exts} (hX : ExtOk P X) (hm : P.follows .mixedOrders = true) {tab : List (FuncId × Con)} (htab : ∀ f con, (f, con) ∈ tab → ConOk P rels f con)
    {strat : Code → St → Option LoopS} {cs : CutS} {k : Nat} {f : FuncId} {fn : Func} {c : Code} {can : Can} {vals : List Value} {ρ : Env} {β : Base} (hfn : P.funcs[f]? = some fn) (hc : fn.body = some c) (hS : S0.n0 = β.length) (hl : ρ.length = can.kinds.length)
    (hstrat : ∀ c st cs, strat c st = some cs → CutOk rels cs.sel.length cs.n cs.id) (hrest : RestOk P rels fn can cs (restC k c))
    (hM : Mem S0 ρ β can.hp w0 w) (hargs : All2 (AV.R ρ β) can.args vals) (h : (topS P X tab strat cs k f can.args can.hp ρ.length).vc rels (can.endQ rels ρ) ρ) :
    Calls P f vals.toArray w fun e w' => ∃ v ρ' β' av hp', e = .returned v ∧ Ext ρ ρ' ∧ Ext β β' ∧ av.R ρ' β' v ∧ Mem S0 ρ' β' hp' w0 w' ∧ can.endQ rels ρ ρ' av hp' := by
  unfold topS at h
  rw [hfn] at h
  simp only [hc] at h
  split at h
  · rename_i hle
    obtain ⟨t, ht, hg⟩ := entryK_spec (ρ := ρ) (β := β) (nt := fn.ntmps) can.args 0 .e
    rw [ht, forceK_spec, forceK_spec, hM.len] at h
    refine calls_of_wp hfn hc ?_
    have hlen : can.args.length = vals.length := hargs.length
    have hfr : FrR ρ β t fn.ntmps { tmps := vals.toArray ++ Array.replicate (fn.ntmps - vals.toArray.size) undef, defers := [] } := by
      refine ⟨by simp; omega, fun j v e => ?_, rfl⟩
      rw [hg] at e
      simp only [Nat.zero_le, true_and, Nat.zero_add, Nat.sub_zero, Tr.get] at e
      split at e
      · rename_i hj
        obtain ⟨u, hu, hR⟩ := hargs.get e
        have : (vals.toArray ++ Array.replicate (fn.ntmps - vals.toArray.size) undef).getD j undef = u := by
          rw [Array.getD_eq_getD_getElem?, Array.getElem?_append_left (by simp; omega)]
          simp [hu]
        rw [this]; exact hR
      · cases e
    have hfin : ∀ a w', Post rels (can.endQ rels ρ) S0 w0 ρ β (finX P fn ⟨.e, 0, [], 0⟩ fun v st => .fin v st.hp) a w' → a.defers = [] ∧ ∃ v, (results fn a.tmps).run P w' = .ok v w' ∧
        ∃ v' ρ' β' av hp', Ending.returned v = .returned v' ∧ Ext ρ ρ' ∧ Ext β β' ∧ av.R ρ' β' v' ∧ Mem S0 ρ' β' hp' w0 w' ∧ can.endQ rels ρ ρ' av hp' := fun a w' hp => by
      obtain ⟨h1, v, h2, v', ρ', β', av, st', h3, h4, h5, h6, h7, h8⟩ := finX_sound hp
      exact ⟨h1, v, h2, v', ρ', β', av, st'.hp, h3, h4, h5, h7, h8, h6⟩
    have key : ∀ Q, KOk rels (can.endQ rels ρ) S0 w0 ρ β (finK P fn) Q → c.wp P Q { tmps := vals.toArray ++ Array.replicate (fn.ntmps - vals.toArray.size) undef, defers := [] } w := fun Q hK => by
      refine spineL_sound hX hm (callX_sound hX hm htab 99) hstrat hK k c (fun a w' hp => ?_) _ w ⟨ρ, β, _, Ext.refl _, Ext.refl _, h, Rel.mk' hfr hM rfl⟩
      obtain ⟨outs, ho, hpre, β', hβ, hr⟩ := CutS.stop_sound hS hp
      rw [hl] at hr
      exact hrest S0 w0 w' ρ outs β β' a _ hS hl hM.len.symm ho hpre hβ hK hr
    refine key _ ⟨?_, ?_, ?_, ?_⟩
    · exact fun a w' hp => hfin a w' hp
    · exact fun a w' hp => hfin a w' hp
    · exact fun i a w' hp => by obtain ⟨_, _, _, _, _, h, _⟩ := hp; exact h.elim
    · intro ch a w' hq
      obtain ⟨_, v, _, _, _, _, he, _⟩ := hq
      cases he
  · exact h.elim

/-- The condition of the first part. -/
def Can.condS (can : Can) (P : Program) (X : Exts) (tab : List (FuncId × Con)) (rels : Nat → RelSpec) (strat : Code → St → Option LoopS) (cs : CutS) (k : Nat) (f : FuncId) (n : Nat) : Prop :=
  alln can.kinds.length fun ρ => fitsC can.kinds ρ ((rels can.id).pre ρ → pushK ρ 0 .e fun nv g => (topS P X tab strat cs k f can.args can.hp nv).vcT rels can ρ n [] nv g)
theorem can_of_condS {P : Program} {rels : Nat → RelSpec} {X : Exts} (hX : ExtOk P X) (hm : P.follows .mixedOrders = true) {tab : List (FuncId × Con)} (htab : ∀ f con, (f, con) ∈ tab → ConOk P rels f con)
    {strat : Code → St → Option LoopS} {cs : CutS} {k : Nat} {f : FuncId} {fn : Func} {c : Code} {can : Can} (n : Nat) (hfn : P.funcs[f]? = some fn) (hc : fn.body = some c) (hocc : can.occ = true) (hstrat : ∀ c st cs, strat c st = some cs → CutOk rels cs.sel.length cs.n cs.id)
    (hrest : RestOk P rels fn can cs (restC k c)) (h : can.condS P X tab rels strat cs k f n) : CanOk P rels f can :=
  can_of_calls hocc fun w ρ β vals hM hl hargs hp hf => by
    have h1 := fitsC_spec _ _ _ (alln_spec _ _ h ρ hl) hf hp
    have h0 : InTr .e [] := fun i => by simp [Tr.get]
    obtain ⟨g', k1, k2⟩ := pushK_spec ρ .e [] h0
    have k2' := k2 fun nv g => (topS P X tab strat cs k f can.args can.hp nv).vcT rels can ρ n [] nv g
    simp only [List.nil_append, List.length_nil] at k2'
    rw [k2'] at h1
    simp only [List.nil_append] at k1
    refine topS_sound (S0 := canOld β can.hp) (strat := strat) hX hm htab hfn hc (by simp [canOld, hM.len]) hl hstrat hrest hM hargs ?_
    exact Tree.vc_of_vcT _ n [] ρ g' k1 (fun i b e => by simp [lookA] at e) h1
end Go.Sx
