/- The last loop of a function, in parts: each ends at the loop's head in a canonical state, the next goes on from there. -/
import Derived.Test.YtkjfcpeabdimmaaSxSeg
set_option linter.unusedVariables false
set_option linter.unusedSimpArgs false
set_option linter.constructorNameAsVariable false
namespace Go.Sx
open Go

def codeR (P : Program) (X : Exts) (call : CallT) (strat : Code → St → Option LoopS) (b : Code) (stop : St → Option Tree) (K : Kont) : Nat → St → Tree
  | 0, _ => .bad 89
  | n + 1, st => match stop st with
    | some t => t
    | none => codeL P X call strat 100000 b st { K with nrm := fun st => codeR P X call strat b stop K n st }
/-- Behind the loop the function ends. -/
def blockK (bid : Nat) (K : Kont) : Kont := { K with ext := fun i st => if i = bid then K.nrm st else K.ext i st }

section
variable {P : Program} {S0 : Old} {w0 w : World} {rels : Nat → RelSpec} {Q0 : Env → AV → List Reg → Prop}
theorem blockK_ok {ρb : Env} {βb : Base} {K : Kont} {Q : Exit → Act → World → Prop} {bid : Nat} (hK : KOk rels Q0 S0 w0 ρb βb K Q) : KOk rels Q0 S0 w0 ρb βb (blockK bid K) (Exit.inBlock bid Q) :=
  ⟨hK.nrm, hK.ret, fun i a w h => by
    show (if i = bid then Q .normal a w else Q (.exit i) a w)
    by_cases hi : i = bid
    · rw [if_pos hi]
      refine hK.nrm a w ?_
      simpa [blockK, hi] using h
    · rw [if_neg hi]
      refine hK.ext i a w ?_
      simpa [blockK, hi] using h, hK.pan⟩
theorem codeR_sound {X : Exts} (hX : ExtOk P X) (hm : P.follows .mixedOrders = true) {call : CallT} (hcall : CallOk P rels Q0 S0 w0 call) {strat : Code → St → Option LoopS}
    (hstrat : ∀ c st cs, strat c st = some cs → CutOk rels cs.sel.length cs.n cs.id) {b : Code} {stop : St → Option Tree} {ρb : Env} {βb : Base} {K : Kont} {Q : Exit → Act → World → Prop} (hK : KOk rels Q0 S0 w0 ρb βb K Q)
    (hstop : ∀ a w ρ β st t, Ext ρb ρ → Ext βb β → stop st = some t → t.vc rels Q0 ρ → Rel S0 ρ β w0 st a w → LoopWp P b Q a w) :
    ∀ (n : Nat) a w, Post rels Q0 S0 w0 ρb βb (fun st => codeR P X call strat b stop K n st) a w → LoopWp P b Q a w
  | 0, a, w, hp => by obtain ⟨ρ, β, st, _, _, h, _⟩ := hp; exact h.elim
  | n + 1, a, w, hp => by
    obtain ⟨ρ, β, st, hρ, hβ, h, hr⟩ := hp
    simp only [codeR] at h
    split at h
    · rename_i t ht
      exact hstop a w ρ β st t hρ hβ ht h hr
    · refine loopWp_step (codeL_sound hX hm hcall hstrat 100000 b { K with nrm := fun st => codeR P X call strat b stop K n st } (Exit.then (LoopWp P b Q) Q) ρb βb ⟨?_, hK.ret, hK.ext, hK.pan⟩ a w ⟨ρ, β, st, hρ, hβ, h, hr⟩).wp
      exact fun a w h => codeR_sound hX hm hcall hstrat hK hstop n a w h
end

/-- What is left of a function at the head of its last loop. -/
def RestLoop (P : Program) (rels : Nat → RelSpec) (fn : Func) (can : Can) (cs : CutS) (bid : Nat) (b : Code) : Prop :=
  ∀ (S0 : Old) (w0 w : World) (ρi outs : Env) (βi β' : Base) (a : Act) (Q : Exit → Act → World → Prop), S0.n0 = βi.length → ρi.length = can.kinds.length → βi.length = can.hp.length → outs.length = cs.n → (rels (cs.id + 1000)).pre (ρi ++ outs) → Ext βi β' →
    KOk rels (can.endQ rels ρi) S0 w0 ρi βi (finK P fn) Q → Rel S0 (ρi ++ outs) β' w0 (cs.openS can.kinds.length can.kinds.length fn.ntmps) a w → LoopWp P b (Exit.inBlock bid Q) a w
/-- Where a part ends, if at all. -/
def stopAt (next : Option (CutS × (St → Bool))) (can : Can) (fn : Func) (st : St) : Option Tree := match next with
  | none => none
  | some (cs, q) => if q st then some (cs.stopK can.kinds.length can.hp.length fn.ntmps st) else none
def NextOk (P : Program) (rels : Nat → RelSpec) (fn : Func) (can : Can) (bid : Nat) (b : Code) (next : Option (CutS × (St → Bool))) : Prop := match next with
  | none => True
  | some (cs, _) => RestLoop P rels fn can cs bid b
theorem stopAt_ok {P : Program} {rels : Nat → RelSpec} {fn : Func} {can : Can} {bid : Nat} {b : Code} {next : Option (CutS × (St → Bool))} (hn : NextOk P rels fn can bid b next) {S0 : Old} {w0 : World} {ρi : Env} {βi : Base} {Q : Exit → Act → World → Prop}
    (hS : S0.n0 = βi.length) (hl : ρi.length = can.kinds.length) (hlb : βi.length = can.hp.length) (hK : KOk rels (can.endQ rels ρi) S0 w0 ρi βi (finK P fn) Q) :
    ∀ a w ρ β st t, Ext ρi ρ → Ext βi β → stopAt next can fn st = some t → t.vc rels (can.endQ rels ρi) ρ → Rel S0 ρ β w0 st a w → LoopWp P b (Exit.inBlock bid Q) a w := by
  intro a w ρ β st t hρ hβ ht hv hr
  unfold stopAt at ht
  split at ht
  · cases ht
  · rename_i cs q
    split at ht
    · obtain rfl := Option.some.inj ht
      obtain ⟨outs, ho, hpre, β', hβ', hr'⟩ := CutS.stop_sound (cs := cs) (nt := fn.ntmps) (rels := rels) (Q0 := can.endQ rels ρi) hS ⟨ρ, β, st, hρ, hβ, by rw [hl, hlb]; exact hv, hr⟩
      rw [hl] at hr'
      exact hn S0 w0 w ρi outs βi β' a Q hS hl hlb ho hpre hβ' hK hr'
    · cases ht
/-- The condition of a part from the loop's head on. -/
def LoopCond (P : Program) (X : Exts) (tab : List (FuncId × Con)) (rels : Nat → RelSpec) (strat : Code → St → Option LoopS) (fn : Func) (can : Can) (cs : CutS) (next : Option (CutS × (St → Bool))) (bid : Nat) (b : Code) (n : Nat) : Prop :=
  alln (can.kinds.length + cs.n) fun ρ => (rels (cs.id + 1000)).pre ρ → pushK ρ 0 .e fun nv g => (cs.openK can.kinds.length can.kinds.length fn.ntmps fun st => codeR P X (callX P X tab 99) strat b (stopAt next can fn) (blockK bid (finK P fn)) 100000 st).vcT rels can (ρ.take can.kinds.length) n [] nv g
theorem loop_of {P : Program} {X : Exts} (hX : ExtOk P X) (hm : P.follows .mixedOrders = true) {rels : Nat → RelSpec} {tab : List (FuncId × Con)} (htab : ∀ f con, (f, con) ∈ tab → ConOk P rels f con) {strat : Code → St → Option LoopS}
    {fn : Func} {can : Can} {cs : CutS} {next : Option (CutS × (St → Bool))} {bid : Nat} {b : Code} (n : Nat) (hstrat : ∀ c st cs, strat c st = some cs → CutOk rels cs.sel.length cs.n cs.id) (hnext : NextOk P rels fn can bid b next)
    (h : LoopCond P X tab rels strat fn can cs next bid b n) : RestLoop P rels fn can cs bid b := by
  intro S0 w0 w ρi outs βi β' a Q hS hl hlb ho hpre hβ hK hr
  have h1 := alln_spec _ _ h (ρi ++ outs) (by simp [hl, ho]) hpre
  have h0 : InTr .e [] := fun i => by simp [Tr.get]
  obtain ⟨g', k1, k2⟩ := pushK_spec (ρi ++ outs) .e [] h0
  have k2' := k2 fun nv g => (cs.openK can.kinds.length can.kinds.length fn.ntmps fun st => codeR P X (callX P X tab 99) strat b (stopAt next can fn) (blockK bid (finK P fn)) 100000 st).vcT rels can ((ρi ++ outs).take can.kinds.length) n [] nv g
  simp only [List.nil_append, List.length_nil] at k2'
  rw [k2', CutS.openK_eq, ← hl, List.take_left] at h1
  simp only [List.nil_append] at k1
  have hvc := Tree.vc_of_vcT _ n [] (ρi ++ outs) g' k1 (fun i b e => by simp [lookA] at e) h1
  rw [← hl] at hr
  exact codeR_sound hX hm (callX_sound hX hm htab 99) hstrat (blockK_ok hK) (stopAt_ok hnext hS hl hlb hK) 100000 a w ⟨ρi ++ outs, β', _, Ext.app _ _, hβ, hvc, hr⟩
/-- The condition of the part that leads into the loop. -/
def HeadCond (P : Program) (X : Exts) (tab : List (FuncId × Con)) (rels : Nat → RelSpec) (strat : Code → St → Option LoopS) (fn : Func) (can : Can) (cs : CutS) (next : Option (CutS × (St → Bool))) (r : Code) (bid : Nat) (b : Code) (n : Nat) : Prop :=
  alln (can.kinds.length + cs.n) fun ρ => (rels (cs.id + 1000)).pre ρ → pushK ρ 0 .e fun nv g => (cs.openK can.kinds.length can.kinds.length fn.ntmps fun st => codeL P X (callX P X tab 99) strat 100000 r st { finK P fn with nrm := fun st => codeR P X (callX P X tab 99) strat b (stopAt next can fn) (blockK bid (finK P fn)) 100000 st }).vcT rels can (ρ.take can.kinds.length) n [] nv g
theorem head_of {P : Program} {X : Exts} (hX : ExtOk P X) (hm : P.follows .mixedOrders = true) {rels : Nat → RelSpec} {tab : List (FuncId × Con)} (htab : ∀ f con, (f, con) ∈ tab → ConOk P rels f con) {strat : Code → St → Option LoopS}
    {fn : Func} {can : Can} {cs : CutS} {next : Option (CutS × (St → Bool))} {r : Code} {bid : Nat} {b : Code} (n : Nat) (hstrat : ∀ c st cs, strat c st = some cs → CutOk rels cs.sel.length cs.n cs.id) (hnext : NextOk P rels fn can bid b next)
    (h : HeadCond P X tab rels strat fn can cs next r bid b n) : RestOk P rels fn can cs (.seq r (.block bid (.loop b))) := by
  intro S0 w0 w ρi outs βi β' a Q hS hl hlb ho hpre hβ hK hr
  have h1 := alln_spec _ _ h (ρi ++ outs) (by simp [hl, ho]) hpre
  have h0 : InTr .e [] := fun i => by simp [Tr.get]
  obtain ⟨g', k1, k2⟩ := pushK_spec (ρi ++ outs) .e [] h0
  have k2' := k2 fun nv g => (cs.openK can.kinds.length can.kinds.length fn.ntmps fun st => codeL P X (callX P X tab 99) strat 100000 r st { finK P fn with nrm := fun st => codeR P X (callX P X tab 99) strat b (stopAt next can fn) (blockK bid (finK P fn)) 100000 st }).vcT rels can ((ρi ++ outs).take can.kinds.length) n [] nv g
  simp only [List.nil_append, List.length_nil] at k2'
  rw [k2', CutS.openK_eq, ← hl, List.take_left] at h1
  simp only [List.nil_append] at k1
  have hvc := Tree.vc_of_vcT _ n [] (ρi ++ outs) g' k1 (fun i b e => by simp [lookA] at e) h1
  rw [← hl] at hr
  refine wp_seq (codeL_sound hX hm (callX_sound hX hm htab 99) hstrat 100000 r { finK P fn with nrm := fun st => codeR P X (callX P X tab 99) strat b (stopAt next can fn) (blockK bid (finK P fn)) 100000 st } (Exit.then ((Code.block bid (.loop b)).wp P Q) Q) ρi βi ⟨?_, hK.ret, hK.ext, hK.pan⟩ a w ⟨ρi ++ outs, β', _, Ext.app _ _, hβ, hvc, hr⟩).wp
  exact fun a w hp => wp_block (codeR_sound hX hm (callX_sound hX hm htab 99) hstrat (blockK_ok hK) (stopAt_ok hnext hS hl hlb hK) 100000 a w hp).wp
end Go.Sx
