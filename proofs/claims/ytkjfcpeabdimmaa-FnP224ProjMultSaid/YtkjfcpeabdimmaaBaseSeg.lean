/- Loops that are cut while the rest of the state is kept: what changes alone becomes new numbers. -/
import Derived.Test.YtkjfcpeabdimmaaBaseSound
set_option linter.unusedVariables false
set_option linter.unusedSimpArgs false
set_option linter.constructorNameAsVariable false
namespace Go.Sx
open Go

/-- The state at a loop's head, its numbers as they stand there (those from nv on, n of them, are what changes); sel: what of the numbers before the loop's relation speaks of. -/
structure LoopS where
  id : Nat
  sel : List Src
  fr : List (Tmp × AV)
  hp : List Reg
  n : Nat
  /-- The region whose cells change. -/
  w : Nat

def kEq : IntKind → IntKind → Bool
  | .u64, .u64 => true
  | .i64, .i64 => true
  | .u8, .u8 => true
  | _, _ => false
theorem kEq_eq {k k' : IntKind} (h : kEq k k' = true) : k = k' := by cases k <;> cases k' <;> first | rfl | cases h
def instF2 (nr : Nat) : Sc → Sc → Bool
  | .bool a, .bool b => a == b
  | .int k n, .int k' n' => k == k' && n == n'
  | .ptr r o, .ptr r' o' => r == r' && o == o' && decide (r < nr)
  | .nilp, .nilp => true
  | .slice r o l c, .slice r' o' l' c' => r == r' && o == o' && l == l' && c == c' && decide (r < nr)
  | .sliceU r o l, .sliceU r' o' l' => r == r' && o == o' && l == l' && decide (r < nr)
  | .nils, .nils => true
  | .func f, .func g => f == g
  | .nilIface, .nilIface => true
  | _, _ => false
def instF (nv nr : Nat) (os : List Src) (c s : Sc) : Bool := match c with
  | .und => true
  | .var k i => match Nat.ble nv i with
    | true => (match srcK s, os[i - nv]? with
      | some (k', x), some y => k == k' && x.eqB y
      | _, _ => false)
    | false => (match s with
      | .var k' i' => Nat.beq i i' && kEq k k'
      | _ => false)
  | c => instF2 nr c s

theorem Ext.back {α : Type} {l l' : List α} (h : Ext l l') {i : Nat} (hi : i < l.length) : l'[i]? = l[i]? := by
  obtain ⟨t, rfl⟩ := h
  rw [List.getElem?_append_left hi]

section
variable {ρ ρ2 : Env} {β β2 : Base} {os : List Src}
theorem instF2_R (hρ : Ext ρ ρ2) (hβ : Ext β β2) : ∀ (c s : Sc) (v : Value), instF2 β.length c s = true → s.R ρ2 β2 v → c.R (ρ ++ os.map (Src.ev ρ2)) β v := by
  intro c
  cases c with
  | und => intro s v _ _; trivial
  | var k i => intro s v h hR; cases s <;> simp [instF2] at h
  | ptr r o =>
    intro s v h hR
    cases s <;> simp only [instF2] at h <;> first | (cases h; done) | skip
    simp only [Bool.and_eq_true, beq_iff_eq, decide_eq_true_eq] at h
    obtain ⟨⟨rfl, rfl⟩, hr⟩ := h
    obtain ⟨b, hb, hv⟩ := hR
    exact ⟨b, by rw [← hβ.back hr]; exact hb, hv⟩
  | slice r o l c =>
    intro s v h hR
    cases s <;> simp only [instF2] at h <;> first | (cases h; done) | skip
    simp only [Bool.and_eq_true, beq_iff_eq, decide_eq_true_eq] at h
    obtain ⟨⟨⟨⟨rfl, rfl⟩, rfl⟩, rfl⟩, hr⟩ := h
    obtain ⟨b, hb, hv⟩ := hR
    exact ⟨b, by rw [← hβ.back hr]; exact hb, hv⟩
  | sliceU r o l =>
    intro s v h hR
    cases s <;> simp only [instF2] at h <;> first | (cases h; done) | skip
    simp only [Bool.and_eq_true, beq_iff_eq, decide_eq_true_eq] at h
    obtain ⟨⟨⟨rfl, rfl⟩, rfl⟩, hr⟩ := h
    obtain ⟨b, cap, hb, hv⟩ := hR
    exact ⟨b, cap, by rw [← hβ.back hr]; exact hb, hv⟩
  | bool a => intro s v h hR; cases s <;> simp [instF2] at h; subst h; exact hR
  | int k n =>
    intro s v h hR
    cases s <;> simp [instF2] at h
    obtain ⟨rfl, rfl⟩ := h
    exact hR
  | nilp => intro s v h hR; cases s <;> simp [instF2] at h; exact hR
  | nils => intro s v h hR; cases s <;> simp [instF2] at h; exact hR
  | nilIface => intro s v h hR; cases s <;> simp [instF2] at h; exact hR
  | func a => intro s v h hR; cases s <;> simp [instF2] at h; subst h; exact hR
  | _ => intro s v h hR; cases s <;> simp [instF2] at h
theorem instF_R (hρ : Ext ρ ρ2) (hβ : Ext β β2) (c s : Sc) (v : Value) (h : instF ρ.length β.length os c s = true) (hR : s.R ρ2 β2 v) : c.R (ρ ++ os.map (Src.ev ρ2)) β v := by
  unfold instF at h
  split at h
  · trivial
  · rename_i k i
    split at h
    · rename_i hb
      have hi : ρ.length ≤ i := Nat.le_of_ble_eq_true hb
      split at h
      · rename_i k' x y hs hx
        simp only [Bool.and_eq_true, beq_iff_eq] at h
        obtain ⟨rfl, h2⟩ := h
        obtain rfl := Src.eqB_spec h2
        obtain ⟨h3, h4⟩ := srcK_spec hs hR
        exact ⟨x.ev ρ2, by rw [List.getElem?_append_right (by omega)]; simp [hx], h3, h4⟩
      · cases h
    · rename_i hb
      have hi : i < ρ.length := Nat.lt_of_not_le fun k => by
        have := Nat.ble_eq_true_of_le k
        rw [hb] at this
        cases this
      split at h
      · rename_i k' i'
        simp only [Bool.and_eq_true] at h
        obtain rfl := Nat.eq_of_beq_eq_true h.1
        obtain rfl := kEq_eq h.2
        obtain ⟨n, hn, hv⟩ := hR
        rw [hρ.back hi] at hn
        exact ⟨n, by rw [List.getElem?_append_left hi]; exact hn, hv⟩
      · cases h
  · exact instF2_R hρ hβ _ s v h hR

def instFL (nv nr : Nat) (os : List Src) : List Sc → List Sc → Bool
  | [], [] => true
  | c :: cs, s :: ss => instF nv nr os c s && instFL nv nr os cs ss
  | _, _ => false
theorem instFL_get {nv nr : Nat} : ∀ (cs ss : List Sc), instFL nv nr os cs ss = true → cs.length = ss.length ∧ ∀ (i : Nat) (c : Sc), cs[i]? = some c → ∃ s, ss[i]? = some s ∧ instF nv nr os c s = true
  | [], [], _ => ⟨rfl, fun i c h => by simp at h⟩
  | c :: cs, s :: ss, h => by
    simp only [instFL, Bool.and_eq_true] at h
    obtain ⟨h1, h2⟩ := instFL_get cs ss h.2
    refine ⟨by simp [h1], fun i d e => ?_⟩
    cases i with
    | zero => simp at e; subst e; exact ⟨s, rfl, h.1⟩
    | succ i => simpa using h2 i d (by simpa using e)
theorem instFL_R (hρ : Ext ρ ρ2) (hβ : Ext β β2) : ∀ (cs ss : List Sc) (vs : List Value), instFL ρ.length β.length os cs ss = true → All2 (Sc.R ρ2 β2) ss vs → All2 (Sc.R (ρ ++ os.map (Src.ev ρ2)) β) cs vs
  | [], [], [], _, _ => trivial
  | c :: cs, s :: ss, v :: vs, h, hR => by
    simp only [instFL, Bool.and_eq_true] at h
    exact ⟨instF_R hρ hβ c s v h.1 hR.1, instFL_R hρ hβ cs ss vs h.2 hR.2⟩
def instFA (nv nr : Nat) (os : List Src) : AV → AV → Bool
  | .one (.s c), .one (.s s) => instF nv nr os c s
  | .one (.g cs), .one (.g ss) => instFL nv nr os cs ss
  | _, _ => false
theorem instFA_R (hρ : Ext ρ ρ2) (hβ : Ext β β2) {c s : AV} {v : Value} (h : instFA ρ.length β.length os c s = true) (hR : s.R ρ2 β2 v) : c.R (ρ ++ os.map (Src.ev ρ2)) β v := by
  unfold instFA at h
  split at h
  · exact instF_R hρ hβ _ _ _ h hR
  · obtain ⟨us, rfl, h2⟩ := hR
    exact ⟨us, rfl, instFL_R hρ hβ _ _ _ h h2⟩
  · cases h
def instFVs (nv nr : Nat) (os : List Src) : List (Tmp × AV) → List AV → Bool
  | [], [] => true
  | (_, c) :: cs, s :: ss => instFA nv nr os c s && instFVs nv nr os cs ss
  | _, _ => false
def instFH (nv nr : Nat) (os : List Src) : List Reg → List Reg → Bool
  | [], _ => true
  | g :: gs, h :: hs => (g.cs.isEmpty || instFL nv nr os g.cs h.cs) && g.rw == h.rw && (g.it.isNone && g.bulk.isNone) && instFH nv nr os gs hs
  | _ :: _, [] => false
theorem instFH_get {nv nr : Nat} : ∀ (gs hs : List Reg), instFH nv nr os gs hs = true → ∀ (j : Nat) (g : Reg), gs[j]? = some g → ∃ h, hs[j]? = some h ∧ (∀ (i : Nat) (c : Sc), g.cs[i]? = some c → ∃ s, h.cs[i]? = some s ∧ instF nv nr os c s = true) ∧ g.cs.length ≤ h.cs.length ∧ g.rw = h.rw ∧ g.it = none ∧ g.bulk = none
  | [], _, _, j, g, e => by simp at e
  | g :: gs, h :: hs, k, j, d, e => by
    simp only [instFH, Bool.and_eq_true, Bool.or_eq_true, beq_iff_eq, Option.isNone_iff_eq_none] at k
    cases j with
    | zero =>
      simp at e; subst e
      refine ⟨h, rfl, ?_, ?_, k.1.1.2, k.1.2.1, k.1.2.2⟩
      · rcases k.1.1.1 with hn | hi
        · intro i c hc
          have : g.cs = [] := by simpa using hn
          rw [this] at hc
          simp at hc
        · exact (instFL_get _ _ hi).2
      · rcases k.1.1.1 with hn | hi
        · have : g.cs = [] := by simpa using hn
          rw [this]
          exact Nat.zero_le _
        · exact Nat.le_of_eq (instFL_get _ _ hi).1
    | succ j => simpa using instFH_get gs hs k.2 j d (by simpa using e)
  | _ :: _, [], k, _, _, _ => by cases k
end

def matF (nv : Nat) : Sc → Sc → List (Nat × Src) → List (Nat × Src)
  | .var _ i, s, acc => if i < nv then acc else (match srcK s with
    | some (_, x) => (i, x) :: acc
    | none => acc)
  | _, _, acc => acc
def matFL (nv : Nat) : List Sc → List Sc → List (Nat × Src) → List (Nat × Src)
  | c :: cs, s :: ss, acc => matFL nv cs ss (matF nv c s acc)
  | _, _, acc => acc
def matFVs (nv : Nat) : List (Tmp × AV) → List AV → List (Nat × Src) → List (Nat × Src)
  | (_, .one (.s c)) :: cs, .one (.s s) :: ss, acc => matFVs nv cs ss (matF nv c s acc)
  | (_, .one (.g c)) :: cs, .one (.g s) :: ss, acc => matFVs nv cs ss (matFL nv c s acc)
  | _, _, acc => acc
def matFH (nv w : Nat) (gs hs : List Reg) (acc : List (Nat × Src)) : List (Nat × Src) :=
  match gs[w]?, hs[w]? with
  | some g, some h => matFL nv g.cs h.cs acc
  | _, _ => acc
def pickF (acc : List (Nat × Src)) : Nat → Nat → Option (List Src)
  | _, 0 => some []
  | j, n + 1 => match lookA acc j, pickF acc (j + 1) n with
    | some x, some l => some (x :: l)
    | _, _ => none
theorem pickF_length {acc : List (Nat × Src)} : ∀ (n j : Nat) (l : List Src), pickF acc j n = some l → l.length = n
  | 0, j, l, h => by obtain rfl := Option.some.inj h; rfl
  | n + 1, j, l, h => by
    simp only [pickF] at h
    split at h
    · rename_i x l' _ hl
      obtain rfl := Option.some.inj h
      simp [pickF_length n (j + 1) l' hl]
    · cases h

def LoopS.fit (c : LoopS) (nv nr : Nat) (st : St) : Option (List Src) :=
  match getsX st.fr c.fr with
  | none => none
  | some us => match pickF (matFH nv c.w c.hp st.hp (matFVs nv c.fr us [])) nv c.n with
    | some os => if instFVs nv nr os c.fr us && instFH nv nr os c.hp st.hp then some os else none
    | none => none
def fillA {β : Type} : List (Tmp × AV) → Tr AV → (Tr AV → β) → β
  | [], t, k => k t
  | (i, v) :: l, t, k => t.setK (i + 1) i v fun t => fillA l t k
theorem fillA_spec : ∀ (l : List (Tmp × AV)) (t : Tr AV), ∃ t', (∀ {β : Type} (k : Tr AV → β), fillA l t k = k t') ∧ ∀ j v, t'.get j = some v → t.get j = some v ∨ (j, v) ∈ l
  | [], t => ⟨t, fun _ => rfl, fun j v h => .inl h⟩
  | (i, a) :: l, t => by
    obtain ⟨t1, h1, h2⟩ := Tr.setK_spec (i + 1) t i a (by omega)
    obtain ⟨t2, k1, k2⟩ := fillA_spec l t1
    refine ⟨t2, fun k => by simp [fillA, h1, k1], fun j v e => ?_⟩
    rcases k2 j v e with h | h
    · rw [h2] at h
      by_cases hj : j = i
      · subst hj
        rw [if_pos rfl] at h
        obtain rfl := Option.some.inj h
        exact .inr (by simp)
      · rw [if_neg hj] at h
        exact .inl h
    · exact .inr (by simp [h])
def LoopS.openK {β : Type} (c : LoopS) (nv nt : Nat) (k : St → β) : β := fillA c.fr .e fun fr => forceK (nv + c.n) fun m => k ⟨fr, nt, c.hp, m⟩
def LoopS.openS (c : LoopS) (nv nt : Nat) : St := c.openK nv nt fun st => st
theorem LoopS.openK_eq {β : Type} (c : LoopS) (nv nt : Nat) (k : St → β) : c.openK nv nt k = k (c.openS nv nt) := by
  obtain ⟨t', h, _⟩ := fillA_spec c.fr .e
  simp only [LoopS.openK, LoopS.openS, h, forceK_spec]

section
variable {P : Program} {S0 : Old} {w0 w : World}
theorem Mem.instF {ρ ρ2 : Env} {β β2 : Base} {hp gs : List Reg} {os : List Src} (hM : Mem S0 ρ2 β2 hp w0 w) (hρ : Ext ρ ρ2) (hβ : Ext β β2) (hl : gs.length = β.length) (hH : instFH ρ.length β.length os gs hp = true) : Mem S0 (ρ ++ os.map (Src.ev ρ2)) β gs w0 w := by
  have look := instFH_get gs hp hH
  have bk : ∀ (j : Nat) (x : Nat × Nat), β[j]? = some x → β2[j]? = some x := fun j x e => hβ.get e
  refine ⟨hl, ?_, ?_, ?_, ?_, hM.keep, ?_, ?_, ?_, ?_⟩
  · intro j g x hg hx i c hc
    obtain ⟨h, hh, hi, _⟩ := look j g hg
    obtain ⟨s, hs, hcs⟩ := hi i c hc
    obtain ⟨v, hv, hR⟩ := hM.cell j h x hh (bk j x hx) i s hs
    exact ⟨v, hv, instF_R hρ hβ c s v hcs hR⟩
  · intro j g x hg hx hrw i hi
    obtain ⟨h, hh, _, hii, hr, _⟩ := look j g hg
    exact hM.free j h x hh (bk j x hx) (hr ▸ hrw) i (Nat.lt_of_lt_of_le hi hii)
  · intro j j' g g' x x' hg hg' hx hx' hne hor i i' hi hi'
    obtain ⟨h, hh, _, hii, hr, _⟩ := look j g hg
    obtain ⟨h', hh', _, hii', hr', _⟩ := look j' g' hg'
    exact hM.disj j j' h h' x x' hh hh' (bk j x hx) (bk j' x' hx') hne (by rw [← hr, ← hr']; exact hor) i i' (Nat.lt_of_lt_of_le hi hii) (Nat.lt_of_lt_of_le hi' hii')
  · intro j g x hg hx hrw hlt i hi
    obtain ⟨h, hh, _, hii, hr, _⟩ := look j g hg
    exact hM.wr j h x hh (bk j x hx) (hr ▸ hrw) hlt i (Nat.lt_of_lt_of_le hi hii)
  · intro j g x hg hx hn hw
    obtain ⟨h, hh, _, _, hr, _⟩ := look j g hg
    exact hM.new j h x hh (bk j x hx) hn (hr ▸ hw)
  · intro j g x s p hg _ hit
    obtain ⟨h, hh, _, _, _, hn, _⟩ := look j g hg
    rw [hn] at hit
    cases hit
  · intro j j' g g' x x' hg _ _ _ hit _ _
    obtain ⟨h, hh, _, _, _, hn, _⟩ := look j g hg
    rw [hn] at hit
    cases hit
  · intro j g x i hg _ hb
    obtain ⟨h, hh, _, _, _, _, hn⟩ := look j g hg
    rw [hn] at hb
    cases hb

theorem getsF_R {ρ ρ2 : Env} {β β2 : Base} {os : List Src} (hρ : Ext ρ ρ2) (hβ : Ext β β2) {fr : Tr AV} {nt : Nat} {a : Act} (hf : FrR ρ2 β2 fr nt a) : ∀ (l : List (Tmp × AV)) (us : List AV), getsX fr l = some us → instFVs ρ.length β.length os l us = true →
    ∀ t c, (t, c) ∈ l → c.R (ρ ++ os.map (Src.ev ρ2)) β (a.tmps.getD t undef)
  | [], us, _, _, t, c, h => by cases h
  | (t0, c0) :: l, us, hg, hi, t, c, h => by
    simp only [getsX] at hg
    split at hg
    · rename_i v vs hv hvs
      obtain rfl := Option.some.inj hg
      simp only [instFVs, Bool.and_eq_true] at hi
      rcases List.mem_cons.1 h with e | e
      · cases e
        exact instFA_R hρ hβ hi.1 (hf.fr _ v hv)
      · exact getsF_R hρ hβ hf l vs hvs hi.2 t c e
    · cases hg

theorem LoopS.fit_sound {cs : LoopS} {ρ ρ2 : Env} {β β2 : Base} {st : St} {a : Act} {os : List Src} (h : cs.fit ρ.length β.length st = some os) (hl : cs.hp.length = β.length) (hρ : Ext ρ ρ2) (hβ : Ext β β2) (hr : Rel S0 ρ2 β2 w0 st a w) :
    os.length = cs.n ∧ Rel S0 (ρ ++ os.map (Src.ev ρ2)) β w0 (cs.openS ρ.length st.nt) a w := by
  unfold LoopS.fit at h
  split at h
  · cases h
  · rename_i us hus
    split at h
    · rename_i os' hos
      split at h
      · rename_i hall
        obtain rfl := Option.some.inj h
        simp only [Bool.and_eq_true] at hall
        have el := pickF_length _ _ _ hos
        obtain ⟨t', ht1, ht2⟩ := fillA_spec cs.fr .e
        have est : cs.openS ρ.length st.nt = ⟨t', st.nt, cs.hp, ρ.length + cs.n⟩ := by
          simp only [LoopS.openS, LoopS.openK, ht1, forceK_spec]
        refine ⟨el, ?_⟩
        rw [est]
        refine Rel.mk' ⟨hr.tm, fun t v e => ?_, hr.df⟩ (hr.mem.instF hρ hβ hl hall.2) (by simp; omega)
        rcases ht2 t v e with h' | h'
        · simp [Tr.get] at h'
        · exact getsF_R hρ hβ hr.fr' cs.fr us hus hall.1 t v h'
      · cases h
    · cases h

def codeL (P : Program) (X : Exts) (call : CallT) (strat : Code → St → Option LoopS) : Nat → Code → St → Kont → Tree
  | 0, _, _, _ => .bad 20
  | n + 1, c, st, K => match c with
    | .skip => K.nrm st
    | .region _ ops draw => regionX P X call ops draw st K.nrm
    | .seq a b => codeL P X call strat n a st { K with nrm := fun st => codeL P X call strat n b st K }
    | .cond c a b => match evX st.fr c with
      | .one (.s (.bool t)) => if t then codeL P X call strat n a st K else codeL P X call strat n b st K
      | .one (.s (.boolv i)) => .ite i (codeL P X call strat n a st K) (codeL P X call strat n b st K)
      | _ => .bad 21
    | .block id b => codeL P X call strat n b st { K with ext := fun i st => if i = id then K.nrm st else K.ext i st }
    | .loop b => match strat b st with
      | none => normH st.hp fun hp => codeL P X call strat n b { st with hp := hp } { K with nrm := fun st => codeL P X call strat n (.loop b) st K }
      | some cs => forceK st.nv fun nv => forceK st.nt fun nt => forceK st.hp.length fun nr =>
        match cs.fit nv nr st with
        | none => .bad 82
        | some os => if cs.hp.length = nr ∧ (cs.sel.all fun s => match s with
            | .c _ => true
            | .v i => decide (i < nv)) = true then .ins (.call cs.id (cs.sel ++ os) cs.n) (cs.openK nv nt fun st1 => codeL P X call strat n b st1 { K with
              nrm := fun st2 => if st2.nt = nt then (match cs.fit nv nr st2 with
                | some os' => .ins (.call (cs.id + 1000) (cs.sel ++ (srcsFrom nv cs.n ++ os')) 0) (.bad 83)
                | none => .bad 84) else .bad 85 }) else .bad 87
    | .exit i => K.ext i st
    | .ret => K.ret st
    | _ => .bad 22

theorem Post.lower2 {rels : Nat → RelSpec} {Q0 : Env → AV → List Reg → Prop} {ρb ρb' : Env} {βb βb' : Base} {k : St → Tree} {a : Act} {w : World} (h : Ext ρb ρb') (hβ : Ext βb βb') (hp : Post rels Q0 S0 w0 ρb' βb' k a w) : Post rels Q0 S0 w0 ρb βb k a w := by
  obtain ⟨ρ, β, st, h1, h2, h3, h4⟩ := hp
  exact ⟨ρ, β, st, h.trans h1, hβ.trans h2, h3, h4⟩
theorem sel_ev {ρ ρ2 : Env} (h : Ext ρ ρ2) : ∀ (sel : List Src), (sel.all fun s => match s with
    | .c _ => true
    | .v i => decide (i < ρ.length)) = true → sel.map (Src.ev ρ2) = sel.map (Src.ev ρ)
  | [], _ => rfl
  | s :: l, k => by
    simp only [List.all_cons, Bool.and_eq_true] at k
    rw [List.map_cons, List.map_cons, sel_ev h l k.2]
    congr 1
    cases s with
    | c n => rfl
    | v i =>
      have hi : i < ρ.length := by simpa using k.1
      simp only [Src.ev, List.getD, h.back hi]

/-- A loop, entered at its body. -/
def LoopWp (P : Program) (c : Code) (Q : Exit → Act → World → Prop) (a : Act) (w : World) : Prop :=
  ∀ (b : Frame) (k : List Item) (cs : List Frame), ∃ e a' w', Q e a' w' ∧ Arrives P (lone (b.at a (.code c :: .inLoop c :: k)) cs w) b k cs e a' w'
theorem LoopWp.wp {c : Code} {Q : Exit → Act → World → Prop} {a : Act} {w : World} (h : LoopWp P c Q a w) : (Code.loop c).wp P Q a w := by
  intro b k cs
  obtain ⟨e, a', w', hq, harr⟩ := h b k cs
  exact ⟨e, a', w', hq, .of_steps (.one step_loop) harr⟩
theorem loopWp_step {c : Code} {Q : Exit → Act → World → Prop} {a : Act} {w : World} (h : c.wp P (Exit.then (LoopWp P c Q) Q) a w) : LoopWp P c Q a w := by
  intro b k cs
  obtain ⟨e, a₁, w₁, hq, harr⟩ := h b (.inLoop c :: k) cs
  cases e with
  | normal =>
    obtain ⟨e₂, a₂, w₂, hq₂, harr₂⟩ := hq b k cs
    exact ⟨e₂, a₂, w₂, hq₂, .of_steps (Steps.trans harr (.one step_inLoop)) harr₂⟩
  | exit id => exact ⟨_, a₁, w₁, hq, .pass (x := .inLoop c) rfl (fun _ _ => .inl (by simp)) harr⟩
  | goto l => exact ⟨_, a₁, w₁, hq, .pass (x := .inLoop c) rfl (fun _ _ => .inl (by simp)) harr⟩
  | ret => exact ⟨_, a₁, w₁, hq, .pass (x := .inLoop c) rfl (fun _ _ => .inl (by simp)) harr⟩
  | panic ch => exact ⟨_, a₁, w₁, hq, .pass (x := .inLoop c) rfl (fun _ _ => .inl (by simp)) harr⟩
  | outgrown => exact ⟨_, a₁, w₁, hq, .pass (x := .inLoop c) rfl (fun _ _ => .inl (by simp)) harr⟩
theorem loopWp_n {c : Code} {Q : Exit → Act → World → Prop} (L : Nat → Act → World → Prop) (h0 : ∀ a w, ¬ L 0 a w) (h : ∀ n a w, L (n + 1) a w → c.wp P (Exit.then (L n) Q) a w) : ∀ n a w, L n a w → LoopWp P c Q a w := by
  intro n
  induction n with
  | zero => intro a w h; exact (h0 a w h).elim
  | succ n ih =>
    intro a w hL
    refine loopWp_step (wp_mono (h n a w hL) fun e a w hq => ?_)
    cases e with
    | normal => exact ih a w hq
    | _ => exact hq
def SWp (P : Program) : Code → (Exit → Act → World → Prop) → Act → World → Prop
  | .loop b, Q, a, w => LoopWp P b Q a w
  | c, Q, a, w => c.wp P Q a w
theorem SWp.wp {c : Code} {Q : Exit → Act → World → Prop} {a : Act} {w : World} (h : SWp P c Q a w) : c.wp P Q a w := by
  cases c with
  | loop b => exact LoopWp.wp h
  | _ => exact h

theorem codeL_sound {X : Exts} (hX : ExtOk P X) (hm : P.follows .mixedOrders = true) {rels : Nat → RelSpec} {Q0 : Env → AV → List Reg → Prop} {call : CallT} (hcall : CallOk P rels Q0 S0 w0 call) {strat : Code → St → Option LoopS}
    (hstrat : ∀ c st cs, strat c st = some cs → CutOk rels cs.sel.length cs.n cs.id) :
    ∀ (n : Nat) (c : Code) (K : Kont) (Q : Exit → Act → World → Prop) (ρb : Env) (βb : Base), KOk rels Q0 S0 w0 ρb βb K Q → ∀ a w, Post rels Q0 S0 w0 ρb βb (fun st => codeL P X call strat n c st K) a w → SWp P c Q a w := by
  intro n
  induction n using Nat.strongRecOn with
  | _ n ih =>
    intro c K Q ρb βb hK a w hp
    cases n with
    | zero => obtain ⟨ρ, β, st, _, _, h, _⟩ := hp; exact h.elim
    | succ n =>
      cases c with
      | skip => exact wp_skip (hK.nrm a w hp)
      | region id ops draw => exact regionX_sound hX hm hcall hK.nrm hK.pan hp
      | seq x y =>
        refine wp_seq (ih n (by omega) x { K with nrm := fun st => codeL P X call strat n y st K } (Exit.then (y.wp P Q) Q) ρb βb ⟨?_, hK.ret, hK.ext, hK.pan⟩ a w hp).wp
        exact fun a w h => (ih n (by omega) y K Q ρb βb hK a w h).wp
      | cond x y z =>
        obtain ⟨ρ, β, st, hρ, hβ, h, hr⟩ := hp
        simp only [codeL] at h
        split at h
        · rename_i t hx
          have hv := evX_R hr.fr' x
          rw [hx] at hv
          cases t with
          | true => exact wp_cond_true hv (ih n (by omega) y K Q ρb βb hK a w ⟨ρ, β, st, hρ, hβ, h, hr⟩).wp
          | false => exact wp_cond_false hv (ih n (by omega) z K Q ρb βb hK a w ⟨ρ, β, st, hρ, hβ, h, hr⟩).wp
        · rename_i i hx
          have hv := evX_R hr.fr' x
          rw [hx] at hv
          obtain ⟨m, hm', hv⟩ := hv
          obtain ⟨h1, h2⟩ := h
          rw [getD_of hm'] at h1 h2
          by_cases h0 : m = 0
          · exact wp_cond_false (by rw [hv]; simp [h0]) (ih n (by omega) z K Q ρb βb hK a w ⟨ρ, β, st, hρ, hβ, h2 h0, hr⟩).wp
          · exact wp_cond_true (by rw [hv]; simp [h0]) (ih n (by omega) y K Q ρb βb hK a w ⟨ρ, β, st, hρ, hβ, h1 h0, hr⟩).wp
        · exact h.elim
      | block id b =>
        refine wp_block (ih n (by omega) b { K with ext := fun i st => if i = id then K.nrm st else K.ext i st } (Exit.inBlock id Q) ρb βb ⟨hK.nrm, hK.ret, fun i a w h => ?_, hK.pan⟩ a w hp).wp
        show (if i = id then Q .normal a w else Q (.exit i) a w)
        by_cases hi : i = id
        · rw [if_pos hi]
          refine hK.nrm a w ?_
          simpa [hi] using h
        · rw [if_neg hi]
          refine hK.ext i a w ?_
          simpa [hi] using h
      | loop b =>
        obtain ⟨ρ, β, st, hρ, hβ, h, hr⟩ := hp
        simp only [codeL] at h
        show LoopWp P b Q a w
        split at h
        · rw [normH_spec] at h
          refine loopWp_step (ih n (by omega) b { K with nrm := fun st => codeL P X call strat n (.loop b) st K } (Exit.then (LoopWp P b Q) Q) ρb βb ⟨?_, hK.ret, hK.ext, hK.pan⟩ a w ⟨ρ, β, st, hρ, hβ, h, hr⟩).wp
          exact fun a w h => ih n (by omega) (.loop b) K Q ρb βb hK a w h
        · rename_i cs hst
          rw [forceK_spec, forceK_spec, forceK_spec, hr.nv] at h
          split at h
          · exact h.elim
          · rename_i os hos
            split at h
            · rename_i hcond
              obtain ⟨hlen, hsel⟩ := hcond
              have hlb : st.hp.length = β.length := hr.mem.len
              rw [hlb] at hos hlen h
              obtain ⟨hpre, hpost⟩ := h
              obtain ⟨μ, hin, hback⟩ := hstrat b st cs hst
              obtain ⟨hol, hr1⟩ := LoopS.fit_sound hos hlen (Ext.refl ρ) (Ext.refl β) hr
              rw [List.map_append] at hpre hpost
              refine loopWp_n (fun m a w => ∃ outs : List Int, outs.length = cs.n ∧ (rels cs.id).pre (cs.sel.map (Src.ev ρ) ++ outs) ∧ μ (cs.sel.map (Src.ev ρ) ++ outs) < m ∧ Rel S0 (ρ ++ outs) β w0 (cs.openS ρ.length st.nt) a w)
                (fun a w h => ?_) (fun m a w h => ?_) (μ (cs.sel.map (Src.ev ρ) ++ os.map (Src.ev ρ)) + 1) a w ⟨os.map (Src.ev ρ), by simp [hol], hpre, Nat.lt_succ_self _, hr1⟩
              · obtain ⟨_, _, _, h, _⟩ := h; exact absurd h (Nat.not_lt_zero _)
              · obtain ⟨outs, hl, hinv, hμ, hr'⟩ := h
                have hvc := alln_spec cs.n _ hpost outs hl (hin _ _ outs (by simp) (by simp [hol]) hl hinv)
                rw [LoopS.openK_eq] at hvc
                refine (ih n (by omega) b _ (Exit.then _ Q) (ρ ++ outs) β ⟨?_, ?_, ?_, hK.pan⟩ a w ⟨ρ ++ outs, β, _, Ext.refl _, Ext.refl _, hvc, hr'⟩).wp
                · intro a2 w2 hp2
                  obtain ⟨ρ2, β2, st2, hρ2, hβ2, h2, hr2⟩ := hp2
                  simp only at h2
                  split at h2
                  · rename_i hnt
                    split at h2
                    · rename_i os2 hos2
                      have hb2 : Ext ρ ρ2 := (Ext.app ρ outs).trans hρ2
                      have hpre2 := h2.1
                      rw [List.map_append, List.map_append, sel_ev hb2 cs.sel hsel, ← hl, map_from hρ2] at hpre2
                      obtain ⟨hol2, hr3⟩ := LoopS.fit_sound hos2 hlen hb2 hβ2 hr2
                      rw [hnt] at hr3
                      obtain ⟨k1, k2⟩ := hback _ outs (os2.map (Src.ev ρ2)) (by simp) hl (by simp [hol2]) hpre2
                      exact ⟨os2.map (Src.ev ρ2), by simp [hol2], k1, by omega, hr3⟩
                    · exact h2.elim
                  · exact h2.elim
                · exact fun a w h => hK.ret a w (Post.lower2 (hρ.trans (Ext.app _ _)) hβ h)
                · exact fun i a w h => hK.ext i a w (Post.lower2 (hρ.trans (Ext.app _ _)) hβ h)
            · exact h.elim
      | exit i => exact wp_exit (hK.ext i a w hp)
      | ret => exact wp_ret (hK.ret a w hp)
      | _ => obtain ⟨ρ, β, st, _, _, h, _⟩ := hp; exact h.elim

/-- A function whose loops are cut so. -/
def topL (P : Program) (X : Exts) (tab : List (FuncId × Con)) (strat : Code → St → Option LoopS) (f : FuncId) (args : List AV) (hp : List Reg) (nv : Nat) : Tree :=
  match P.funcs[f]? with
  | none => .bad 26
  | some fn => match fn.body with
    | none => .bad 27
    | some c =>
      if args.length ≤ fn.ntmps then
        entryK args 0 .e fun t => codeL P X (callX P X tab 99) strat 100000 c ⟨t, fn.ntmps, hp, nv⟩
          ⟨finX P fn ⟨.e, 0, hp, nv⟩ fun v st => .fin v st.hp, finX P fn ⟨.e, 0, hp, nv⟩ fun v st => .fin v st.hp, fun _ _ => .bad 28⟩
      else .bad 29

theorem topL_sound {rels : Nat → RelSpec} {Q0 : Env → AV → List Reg → Prop} {X : Exts} (hX : ExtOk P X) (hm : P.follows .mixedOrders = true) {tab : List (FuncId × Con)} (htab : ∀ f con, (f, con) ∈ tab → ConOk P rels f con)
    {strat : Code → St → Option LoopS} {f : FuncId} {args : List AV} {vals : List Value} {hp : List Reg} {ρ : Env} {β : Base} (hstrat : ∀ c st cs, strat c st = some cs → CutOk rels cs.sel.length cs.n cs.id)
    (hM : Mem S0 ρ β hp w0 w) (hargs : All2 (AV.R ρ β) args vals) (h : (topL P X tab strat f args hp ρ.length).vc rels Q0 ρ) :
    Calls P f vals.toArray w fun e w' => ∃ v ρ' β' av hp', e = .returned v ∧ Ext ρ ρ' ∧ Ext β β' ∧ av.R ρ' β' v ∧ Mem S0 ρ' β' hp' w0 w' ∧ Q0 ρ' av hp' := by
  unfold topL at h
  split at h
  · exact h.elim
  · rename_i fn hfn
    split at h
    · exact h.elim
    · rename_i c hc
      split at h
      · rename_i hle
        obtain ⟨t, ht, hg⟩ := entryK_spec (ρ := ρ) (β := β) (nt := fn.ntmps) args 0 .e
        rw [ht] at h
        refine calls_of_wp hfn hc ?_
        have hlen : args.length = vals.length := hargs.length
        have hfr : FrR ρ β t fn.ntmps { tmps := vals.toArray ++ Array.replicate (fn.ntmps - vals.toArray.size) undef, defers := [] } := by
          refine ⟨by simp; omega, fun j v e => ?_, rfl⟩
          rw [hg] at e
          simp only [Nat.zero_le, true_and, Nat.zero_add, Nat.sub_zero, Tr.get] at e
          split at e
          · rename_i hj
            obtain ⟨u, hu, hR⟩ := hargs.get e
            have : (vals.toArray ++ Array.replicate (fn.ntmps - vals.toArray.size) undef).getD j undef = u := by
              rw [Array.getD_eq_getD_getElem?, Array.getElem?_append_left (by simp; omega)]
              simp [hu]
            rw [this]; exact hR
          · cases e
        have hfin : ∀ a w', Post rels Q0 S0 w0 ρ β (finX P fn ⟨.e, 0, hp, ρ.length⟩ fun v st => .fin v st.hp) a w' → a.defers = [] ∧ ∃ v, (results fn a.tmps).run P w' = .ok v w' ∧
            ∃ v' ρ' β' av hp', Ending.returned v = .returned v' ∧ Ext ρ ρ' ∧ Ext β β' ∧ av.R ρ' β' v' ∧ Mem S0 ρ' β' hp' w0 w' ∧ Q0 ρ' av hp' := fun a w' hp => by
          obtain ⟨h1, v, h2, v', ρ', β', av, st', h3, h4, h5, h6, h7, h8⟩ := finX_sound hp
          exact ⟨h1, v, h2, v', ρ', β', av, st'.hp, h3, h4, h5, h7, h8, h6⟩
        refine (codeL_sound hX hm (callX_sound hX hm htab 99) hstrat 100000 c _ _ ρ β ⟨?_, ?_, ?_, ?_⟩ _ w ⟨ρ, β, _, Ext.refl _, Ext.refl _, h, Rel.mk' hfr hM rfl⟩).wp
        · exact fun a w' hp => hfin a w' hp
        · exact fun a w' hp => hfin a w' hp
        · exact fun i a w' hp => by obtain ⟨_, _, _, _, _, h, _⟩ := hp; exact h.elim
        · intro ch a w' hq
          obtain ⟨_, v, _, _, _, _, he, _⟩ := hq
          cases he
      · exact h.elim
end

/-- The condition of a contract whose loops are cut so. -/
def Can.condL (can : Can) (P : Program) (X : Exts) (tab : List (FuncId × Con)) (rels : Nat → RelSpec) (strat : Code → St → Option LoopS) (f : FuncId) (n : Nat) : Prop :=
  alln can.kinds.length fun ρ => fitsC can.kinds ρ ((rels can.id).pre ρ → pushK ρ 0 .e fun nv g => (topL P X tab strat f can.args can.hp nv).vcT rels can ρ n [] nv g)

theorem can_of_condL {P : Program} {rels : Nat → RelSpec} {X : Exts} (hX : ExtOk P X) (hm : P.follows .mixedOrders = true) {tab : List (FuncId × Con)} (htab : ∀ f con, (f, con) ∈ tab → ConOk P rels f con)
    {strat : Code → St → Option LoopS} {f : FuncId} {can : Can} (n : Nat) (hocc : can.occ = true) (hstrat : ∀ c st cs, strat c st = some cs → CutOk rels cs.sel.length cs.n cs.id) (h : can.condL P X tab rels strat f n) : CanOk P rels f can :=
  can_of_calls hocc fun w ρ β vals hM hl hargs hp hf => by
    have h1 := fitsC_spec _ _ _ (alln_spec _ _ h ρ hl) hf hp
    have h0 : InTr .e [] := fun i => by simp [Tr.get]
    obtain ⟨g', k1, k2⟩ := pushK_spec ρ .e [] h0
    have k2' := k2 fun nv g => (topL P X tab strat f can.args can.hp nv).vcT rels can ρ n [] nv g
    simp only [List.nil_append, List.length_nil] at k2'
    rw [k2'] at h1
    simp only [List.nil_append] at k1
    refine topL_sound (S0 := canOld β can.hp) (strat := strat) hX hm htab hstrat hM hargs ?_
    exact Tree.vc_of_vcT _ n [] ρ g' k1 (fun i b e => by simp [lookA] at e) h1
end Go.Sx

/- A function's run in two parts: the first statements end in a canonical state, the rest is run from there. -/
namespace Go.Sx
open Go

/-- The first k statements; then the stop. -/
def spineL (P : Program) (X : Exts) (call : CallT) (strat : Code → St → Option LoopS) (stopK : St → Tree) : Nat → Code → St → Kont → Tree
  | 0, _, st, _ => stopK st
  | k + 1, c, st, K => match c with
    | .seq a b => codeL P X call strat 100000 a st { K with nrm := fun st => spineL P X call strat stopK k b st K }
    | _ => .bad 88
def restC : Nat → Code → Code
  | 0, c => c
  | k + 1, c => match c with
    | .seq _ b => restC k b
    | c => c
def CutS.stopK (cs : CutS) (n0 r0 nt : Nat) (st : St) : Tree :=
  if st.nt = nt then (match cs.fit n0 r0 st with
    | some os => .ins (.call (cs.id + 1000) (idSrcs n0 ++ os) 0) (.bad 83)
    | none => .bad 84) else .bad 85
def finK (P : Program) (fn : Func) : Kont := ⟨finX P fn ⟨.e, 0, [], 0⟩ fun v st => .fin v st.hp, finX P fn ⟨.e, 0, [], 0⟩ fun v st => .fin v st.hp, fun _ _ => .bad 28⟩

section
variable {P : Program} {S0 : Old} {w0 w : World} {rels : Nat → RelSpec} {Q0 : Env → AV → List Reg → Prop}
theorem spineL_sound {X : Exts} (hX : ExtOk P X) (hm : P.follows .mixedOrders = true) {call : CallT} (hcall : CallOk P rels Q0 S0 w0 call) {strat : Code → St → Option LoopS}
    (hstrat : ∀ c st cs, strat c st = some cs → CutOk rels cs.sel.length cs.n cs.id) {stopK : St → Tree} {ρb : Env} {βb : Base} {K : Kont} {Q : Exit → Act → World → Prop} (hK : KOk rels Q0 S0 w0 ρb βb K Q) :
    ∀ (k : Nat) (c : Code), (∀ a w, Post rels Q0 S0 w0 ρb βb stopK a w → (restC k c).wp P Q a w) → ∀ a w, Post rels Q0 S0 w0 ρb βb (fun st => spineL P X call strat stopK k c st K) a w → c.wp P Q a w
  | 0, c, hs, a, w, hp => hs a w hp
  | k + 1, c, hs, a, w, hp => by
    cases c with
    | seq x y =>
      refine wp_seq (codeL_sound hX hm hcall hstrat 100000 x { K with nrm := fun st => spineL P X call strat stopK k y st K } (Exit.then (y.wp P Q) Q) ρb βb ⟨?_, hK.ret, hK.ext, hK.pan⟩ a w hp).wp
      exact fun a w h => spineL_sound hX hm hcall hstrat hK k y hs a w h
    | _ => obtain ⟨ρ, β, st, _, _, h, _⟩ := hp; exact h.elim
theorem CutS.stop_sound {cs : CutS} {nt : Nat} {ρi : Env} {βi : Base} (hS : S0.n0 = βi.length) {a : Act} (hp : Post rels Q0 S0 w0 ρi βi (cs.stopK ρi.length βi.length nt) a w) :
    ∃ outs : List Int, outs.length = cs.n ∧ (rels (cs.id + 1000)).pre (ρi ++ outs) ∧ ∃ β', Ext βi β' ∧ Rel S0 (ρi ++ outs) β' w0 (cs.openS ρi.length ρi.length nt) a w := by
  obtain ⟨ρ, β, st, hρ, hβ, h, hr⟩ := hp
  unfold CutS.stopK at h
  split at h
  · rename_i hnt
    split at h
    · rename_i os hos
      have hpre := h.1
      rw [List.map_append, map_ids hρ] at hpre
      obtain ⟨h1, β', h2, h3⟩ := CutS.fit_sound hS hos hρ hβ (Ext.refl ρi) hr
      rw [hnt] at h3
      exact ⟨_, by simpa using h1, hpre, β', h2, h3⟩
    · exact h.elim
  · exact h.elim
end

/-- What is left of a function, from the canonical state on: whatever follows goes through. -/
def RestOk (P : Program) (rels : Nat → RelSpec) (fn : Func) (can : Can) (cs : CutS) (c : Code) : Prop :=
  ∀ (S0 : Old) (w0 w : World) (ρi outs : Env) (βi β' : Base) (a : Act) (Q : Exit → Act → World → Prop), S0.n0 = βi.length → ρi.length = can.kinds.length → βi.length = can.hp.length → outs.length = cs.n → (rels (cs.id + 1000)).pre (ρi ++ outs) → Ext βi β' →
    KOk rels (can.endQ rels ρi) S0 w0 ρi βi (finK P fn) Q → Rel S0 (ρi ++ outs) β' w0 (cs.openS can.kinds.length can.kinds.length fn.ntmps) a w → c.wp P Q a w

def RestCond (P : Program) (X : Exts) (tab : List (FuncId × Con)) (rels : Nat → RelSpec) (isCut : Code → Bool) (strat : Code → St → Option CutS) (fn : Func) (can : Can) (cs : CutS) (c : Code) (n : Nat) : Prop :=
  alln (can.kinds.length + cs.n) fun ρ => (rels (cs.id + 1000)).pre ρ → pushK ρ 0 .e fun nv g => (cs.openK can.kinds.length can.kinds.length fn.ntmps fun st => codeC P X (callX P X tab 99) isCut strat can.kinds.length can.hp.length 100000 c st (finK P fn)).vcT rels can (ρ.take can.kinds.length) n [] nv g
theorem restC_of {P : Program} {X : Exts} (hX : ExtOk P X) (hm : P.follows .mixedOrders = true) {rels : Nat → RelSpec} {tab : List (FuncId × Con)} (htab : ∀ f con, (f, con) ∈ tab → ConOk P rels f con) {isCut : Code → Bool} {strat : Code → St → Option CutS}
    {fn : Func} {can : Can} {cs : CutS} {c : Code} (n : Nat) (hstrat : ∀ c st cs, strat c st = some cs → CutOk rels can.kinds.length cs.n cs.id)
    (h : RestCond P X tab rels isCut strat fn can cs c n) :
    RestOk P rels fn can cs c := by
  intro S0 w0 w ρi outs βi β' a Q hS hl hlb ho hpre hβ hK hr
  have h1 := alln_spec _ _ h (ρi ++ outs) (by simp [hl, ho]) hpre
  have h0 : InTr .e [] := fun i => by simp [Tr.get]
  obtain ⟨g', k1, k2⟩ := pushK_spec (ρi ++ outs) .e [] h0
  have k2' := k2 fun nv g => (cs.openK can.kinds.length can.kinds.length fn.ntmps fun st => codeC P X (callX P X tab 99) isCut strat can.kinds.length can.hp.length 100000 c st (finK P fn)).vcT rels can ((ρi ++ outs).take can.kinds.length) n [] nv g
  simp only [List.nil_append, List.length_nil] at k2'
  rw [k2', CutS.openK_eq, ← hl, List.take_left] at h1
  simp only [List.nil_append] at k1
  have hvc := Tree.vc_of_vcT _ n [] (ρi ++ outs) g' k1 (fun i b e => by simp [lookA] at e) h1
  rw [← hl] at hr hstrat
  rw [← hlb] at hvc
  exact codeC_sound hX hm (callX_sound hX hm htab 99) hS hstrat 100000 c (finK P fn) Q (ρi ++ outs) (Ext.app _ _) ⟨fun a w hp => hK.nrm a w (Post.lower (Ext.app _ _) hp), fun a w hp => hK.ret a w (Post.lower (Ext.app _ _) hp), fun i a w hp => hK.ext i a w (Post.lower (Ext.app _ _) hp), hK.pan⟩ a w ⟨ρi ++ outs, β', _, Ext.refl _, hβ, hvc, hr⟩

def RestCondL (P : Program) (X : Exts) (tab : List (FuncId × Con)) (rels : Nat → RelSpec) (strat : Code → St → Option LoopS) (fn : Func) (can : Can) (cs : CutS) (c : Code) (n : Nat) : Prop :=
  alln (can.kinds.length + cs.n) fun ρ => (rels (cs.id + 1000)).pre ρ → pushK ρ 0 .e fun nv g => (cs.openK can.kinds.length can.kinds.length fn.ntmps fun st => codeL P X (callX P X tab 99) strat 100000 c st (finK P fn)).vcT rels can (ρ.take can.kinds.length) n [] nv g
theorem restL_of {P : Program} {X : Exts} (hX : ExtOk P X) (hm : P.follows .mixedOrders = true) {rels : Nat → RelSpec} {tab : List (FuncId × Con)} (htab : ∀ f con, (f, con) ∈ tab → ConOk P rels f con) {strat : Code → St → Option LoopS}
    {fn : Func} {can : Can} {cs : CutS} {c : Code} (n : Nat) (hstrat : ∀ c st cs, strat c st = some cs → CutOk rels cs.sel.length cs.n cs.id)
    (h : RestCondL P X tab rels strat fn can cs c n) : RestOk P rels fn can cs c := by
  intro S0 w0 w ρi outs βi β' a Q hS hl hlb ho hpre hβ hK hr
  have h1 := alln_spec _ _ h (ρi ++ outs) (by simp [hl, ho]) hpre
  have h0 : InTr .e [] := fun i => by simp [Tr.get]
  obtain ⟨g', k1, k2⟩ := pushK_spec (ρi ++ outs) .e [] h0
  have k2' := k2 fun nv g => (cs.openK can.kinds.length can.kinds.length fn.ntmps fun st => codeL P X (callX P X tab 99) strat 100000 c st (finK P fn)).vcT rels can ((ρi ++ outs).take can.kinds.length) n [] nv g
  simp only [List.nil_append, List.length_nil] at k2'
  rw [k2', CutS.openK_eq, ← hl, List.take_left] at h1
  simp only [List.nil_append] at k1
  have hvc := Tree.vc_of_vcT _ n [] (ρi ++ outs) g' k1 (fun i b e => by simp [lookA] at e) h1
  rw [← hl] at hr
  exact (codeL_sound hX hm (callX_sound hX hm htab 99) hstrat 100000 c (finK P fn) Q (ρi ++ outs) βi ⟨fun a w hp => hK.nrm a w (Post.lower (Ext.app _ _) hp), fun a w hp => hK.ret a w (Post.lower (Ext.app _ _) hp), fun i a w hp => hK.ext i a w (Post.lower (Ext.app _ _) hp), hK.pan⟩ a w ⟨ρi ++ outs, β', _, Ext.refl _, hβ, hvc, hr⟩).wp

/-- The first part of a function. -/
def topS (P : Program) (X : Exts) (tab : List (FuncId × Con)) (strat : Code → St → Option LoopS) (cs : CutS) (k : Nat) (f : FuncId) (args : List AV) (hp : List Reg) (nv : Nat) : Tree :=
  match P.funcs[f]? with
  | none => .bad 26
  | some fn => match fn.body with
    | none => .bad 27
    | some c =>
      if args.length ≤ fn.ntmps then
        entryK args 0 .e fun t => forceK hp.length fun r0 => forceK nv fun n0 => spineL P X (callX P X tab 99) strat (cs.stopK n0 r0 fn.ntmps) k c ⟨t, fn.ntmps, hp, nv⟩ (finK P fn)
      else .bad 29

theorem topS_sound {P : Program} {S0 : Old} {w0 w : World} {rels : Nat → RelSpec} {X : Exts} (hX : ExtOk P X) (hm : P.follows .mixedOrders = true) {tab : List (FuncId × Con)} (htab : ∀ f con, (f, con) ∈ tab → ConOk P rels f con)
    {strat : Code → St → Option LoopS} {cs : CutS} {k : Nat} {f : FuncId} {fn : Func} {c : Code} {can : Can} {vals : List Value} {ρ : Env} {β : Base} (hfn : P.funcs[f]? = some fn) (hc : fn.body = some c) (hS : S0.n0 = β.length) (hl : ρ.length = can.kinds.length)
    (hstrat : ∀ c st cs, strat c st = some cs → CutOk rels cs.sel.length cs.n cs.id) (hrest : RestOk P rels fn can cs (restC k c))
    (hM : Mem S0 ρ β can.hp w0 w) (hargs : All2 (AV.R ρ β) can.args vals) (h : (topS P X tab strat cs k f can.args can.hp ρ.length).vc rels (can.endQ rels ρ) ρ) :
    Calls P f vals.toArray w fun e w' => ∃ v ρ' β' av hp', e = .returned v ∧ Ext ρ ρ' ∧ Ext β β' ∧ av.R ρ' β' v ∧ Mem S0 ρ' β' hp' w0 w' ∧ can.endQ rels ρ ρ' av hp' := by
  unfold topS at h
  rw [hfn] at h
  simp only [hc] at h
  split at h
  · rename_i hle
    obtain ⟨t, ht, hg⟩ := entryK_spec (ρ := ρ) (β := β) (nt := fn.ntmps) can.args 0 .e
    rw [ht, forceK_spec, forceK_spec, hM.len] at h
    refine calls_of_wp hfn hc ?_
    have hlen : can.args.length = vals.length := hargs.length
    have hfr : FrR ρ β t fn.ntmps { tmps := vals.toArray ++ Array.replicate (fn.ntmps - vals.toArray.size) undef, defers := [] } := by
      refine ⟨by simp; omega, fun j v e => ?_, rfl⟩
      rw [hg] at e
      simp only [Nat.zero_le, true_and, Nat.zero_add, Nat.sub_zero, Tr.get] at e
      split at e
      · rename_i hj
        obtain ⟨u, hu, hR⟩ := hargs.get e
        have : (vals.toArray ++ Array.replicate (fn.ntmps - vals.toArray.size) undef).getD j undef = u := by
          rw [Array.getD_eq_getD_getElem?, Array.getElem?_append_left (by simp; omega)]
          simp [hu]
        rw [this]; exact hR
      · cases e
    have hfin : ∀ a w', Post rels (can.endQ rels ρ) S0 w0 ρ β (finX P fn ⟨.e, 0, [], 0⟩ fun v st => .fin v st.hp) a w' → a.defers = [] ∧ ∃ v, (results fn a.tmps).run P w' = .ok v w' ∧
        ∃ v' ρ' β' av hp', Ending.returned v = .returned v' ∧ Ext ρ ρ' ∧ Ext β β' ∧ av.R ρ' β' v' ∧ Mem S0 ρ' β' hp' w0 w' ∧ can.endQ rels ρ ρ' av hp' := fun a w' hp => by
      obtain ⟨h1, v, h2, v', ρ', β', av, st', h3, h4, h5, h6, h7, h8⟩ := finX_sound hp
      exact ⟨h1, v, h2, v', ρ', β', av, st'.hp, h3, h4, h5, h7, h8, h6⟩
    have key : ∀ Q, KOk rels (can.endQ rels ρ) S0 w0 ρ β (finK P fn) Q → c.wp P Q { tmps := vals.toArray ++ Array.replicate (fn.ntmps - vals.toArray.size) undef, defers := [] } w := fun Q hK => by
      refine spineL_sound hX hm (callX_sound hX hm htab 99) hstrat hK k c (fun a w' hp => ?_) _ w ⟨ρ, β, _, Ext.refl _, Ext.refl _, h, Rel.mk' hfr hM rfl⟩
      obtain ⟨outs, ho, hpre, β', hβ, hr⟩ := CutS.stop_sound hS hp
      rw [hl] at hr
      exact hrest S0 w0 w' ρ outs β β' a _ hS hl hM.len.symm ho hpre hβ hK hr
    refine key _ ⟨?_, ?_, ?_, ?_⟩
    · exact fun a w' hp => hfin a w' hp
    · exact fun a w' hp => hfin a w' hp
    · exact fun i a w' hp => by obtain ⟨_, _, _, _, _, h, _⟩ := hp; exact h.elim
    · intro ch a w' hq
      obtain ⟨_, v, _, _, _, _, he, _⟩ := hq
      cases he
  · exact h.elim

/-- The condition of the first part. -/
def Can.condS (can : Can) (P : Program) (X : Exts) (tab : List (FuncId × Con)) (rels : Nat → RelSpec) (strat : Code → St → Option LoopS) (cs : CutS) (k : Nat) (f : FuncId) (n : Nat) : Prop :=
  alln can.kinds.length fun ρ => fitsC can.kinds ρ ((rels can.id).pre ρ → pushK ρ 0 .e fun nv g => (topS P X tab strat cs k f can.args can.hp nv).vcT rels can ρ n [] nv g)
theorem can_of_condS {P : Program} {rels : Nat → RelSpec} {X : Exts} (hX : ExtOk P X) (hm : P.follows .mixedOrders = true) {tab : List (FuncId × Con)} (htab : ∀ f con, (f, con) ∈ tab → ConOk P rels f con)
    {strat : Code → St → Option LoopS} {cs : CutS} {k : Nat} {f : FuncId} {fn : Func} {c : Code} {can : Can} (n : Nat) (hfn : P.funcs[f]? = some fn) (hc : fn.body = some c) (hocc : can.occ = true) (hstrat : ∀ c st cs, strat c st = some cs → CutOk rels cs.sel.length cs.n cs.id)
    (hrest : RestOk P rels fn can cs (restC k c)) (h : can.condS P X tab rels strat cs k f n) : CanOk P rels f can :=
  can_of_calls hocc fun w ρ β vals hM hl hargs hp hf => by
    have h1 := fitsC_spec _ _ _ (alln_spec _ _ h ρ hl) hf hp
    have h0 : InTr .e [] := fun i => by simp [Tr.get]
    obtain ⟨g', k1, k2⟩ := pushK_spec ρ .e [] h0
    have k2' := k2 fun nv g => (topS P X tab strat cs k f can.args can.hp nv).vcT rels can ρ n [] nv g
    simp only [List.nil_append, List.length_nil] at k2'
    rw [k2'] at h1
    simp only [List.nil_append] at k1
    refine topS_sound (S0 := canOld β can.hp) (strat := strat) hX hm htab hfn hc (by simp [canOld, hM.len]) hl hstrat hrest hM hargs ?_
    exact Tree.vc_of_vcT _ n [] ρ g' k1 (fun i b e => by simp [lookA] at e) h1
end Go.Sx

/- The last loop of a function, in parts: each ends at the loop's head in a canonical state, the next goes on from there. -/
namespace Go.Sx
open Go

def codeR (P : Program) (X : Exts) (call : CallT) (strat : Code → St → Option LoopS) (b : Code) (stop : St → Option Tree) (K : Kont) : Nat → St → Tree
  | 0, _ => .bad 89
  | n + 1, st => match stop st with
    | some t => t
    | none => codeL P X call strat 100000 b st { K with nrm := fun st => codeR P X call strat b stop K n st }
/-- Behind the loop the function ends. -/
def blockK (bid : Nat) (K : Kont) : Kont := { K with ext := fun i st => if i = bid then K.nrm st else K.ext i st }

section
variable {P : Program} {S0 : Old} {w0 w : World} {rels : Nat → RelSpec} {Q0 : Env → AV → List Reg → Prop}
theorem blockK_ok {ρb : Env} {βb : Base} {K : Kont} {Q : Exit → Act → World → Prop} {bid : Nat} (hK : KOk rels Q0 S0 w0 ρb βb K Q) : KOk rels Q0 S0 w0 ρb βb (blockK bid K) (Exit.inBlock bid Q) :=
  ⟨hK.nrm, hK.ret, fun i a w h => by
    show (if i = bid then Q .normal a w else Q (.exit i) a w)
    by_cases hi : i = bid
    · rw [if_pos hi]
      refine hK.nrm a w ?_
      simpa [blockK, hi] using h
    · rw [if_neg hi]
      refine hK.ext i a w ?_
      simpa [blockK, hi] using h, hK.pan⟩
theorem codeR_sound {X : Exts} (hX : ExtOk P X) (hm : P.follows .mixedOrders = true) {call : CallT} (hcall : CallOk P rels Q0 S0 w0 call) {strat : Code → St → Option LoopS}
    (hstrat : ∀ c st cs, strat c st = some cs → CutOk rels cs.sel.length cs.n cs.id) {b : Code} {stop : St → Option Tree} {ρb : Env} {βb : Base} {K : Kont} {Q : Exit → Act → World → Prop} (hK : KOk rels Q0 S0 w0 ρb βb K Q)
    (hstop : ∀ a w ρ β st t, Ext ρb ρ → Ext βb β → stop st = some t → t.vc rels Q0 ρ → Rel S0 ρ β w0 st a w → LoopWp P b Q a w) :
    ∀ (n : Nat) a w, Post rels Q0 S0 w0 ρb βb (fun st => codeR P X call strat b stop K n st) a w → LoopWp P b Q a w
  | 0, a, w, hp => by obtain ⟨ρ, β, st, _, _, h, _⟩ := hp; exact h.elim
  | n + 1, a, w, hp => by
    obtain ⟨ρ, β, st, hρ, hβ, h, hr⟩ := hp
    simp only [codeR] at h
    split at h
    · rename_i t ht
      exact hstop a w ρ β st t hρ hβ ht h hr
    · refine loopWp_step (codeL_sound hX hm hcall hstrat 100000 b { K with nrm := fun st => codeR P X call strat b stop K n st } (Exit.then (LoopWp P b Q) Q) ρb βb ⟨?_, hK.ret, hK.ext, hK.pan⟩ a w ⟨ρ, β, st, hρ, hβ, h, hr⟩).wp
      exact fun a w h => codeR_sound hX hm hcall hstrat hK hstop n a w h
end

/-- What is left of a function at the head of its last loop. -/
def RestLoop (P : Program) (rels : Nat → RelSpec) (fn : Func) (can : Can) (cs : CutS) (bid : Nat) (b : Code) : Prop :=
  ∀ (S0 : Old) (w0 w : World) (ρi outs : Env) (βi β' : Base) (a : Act) (Q : Exit → Act → World → Prop), S0.n0 = βi.length → ρi.length = can.kinds.length → βi.length = can.hp.length → outs.length = cs.n → (rels (cs.id + 1000)).pre (ρi ++ outs) → Ext βi β' →
    KOk rels (can.endQ rels ρi) S0 w0 ρi βi (finK P fn) Q → Rel S0 (ρi ++ outs) β' w0 (cs.openS can.kinds.length can.kinds.length fn.ntmps) a w → LoopWp P b (Exit.inBlock bid Q) a w
/-- Where a part ends, if at all. -/
def stopAt (next : Option (CutS × (St → Bool))) (can : Can) (fn : Func) (st : St) : Option Tree := match next with
  | none => none
  | some (cs, q) => if q st then some (cs.stopK can.kinds.length can.hp.length fn.ntmps st) else none
def NextOk (P : Program) (rels : Nat → RelSpec) (fn : Func) (can : Can) (bid : Nat) (b : Code) (next : Option (CutS × (St → Bool))) : Prop := match next with
  | none => True
  | some (cs, _) => RestLoop P rels fn can cs bid b
theorem stopAt_ok {P : Program} {rels : Nat → RelSpec} {fn : Func} {can : Can} {bid : Nat} {b : Code} {next : Option (CutS × (St → Bool))} (hn : NextOk P rels fn can bid b next) {S0 : Old} {w0 : World} {ρi : Env} {βi : Base} {Q : Exit → Act → World → Prop}
    (hS : S0.n0 = βi.length) (hl : ρi.length = can.kinds.length) (hlb : βi.length = can.hp.length) (hK : KOk rels (can.endQ rels ρi) S0 w0 ρi βi (finK P fn) Q) :
    ∀ a w ρ β st t, Ext ρi ρ → Ext βi β → stopAt next can fn st = some t → t.vc rels (can.endQ rels ρi) ρ → Rel S0 ρ β w0 st a w → LoopWp P b (Exit.inBlock bid Q) a w := by
  intro a w ρ β st t hρ hβ ht hv hr
  unfold stopAt at ht
  split at ht
  · cases ht
  · rename_i cs q
    split at ht
    · obtain rfl := Option.some.inj ht
      obtain ⟨outs, ho, hpre, β', hβ', hr'⟩ := CutS.stop_sound (cs := cs) (nt := fn.ntmps) (rels := rels) (Q0 := can.endQ rels ρi) hS ⟨ρ, β, st, hρ, hβ, by rw [hl, hlb]; exact hv, hr⟩
      rw [hl] at hr'
      exact hn S0 w0 w ρi outs βi β' a Q hS hl hlb ho hpre hβ' hK hr'
    · cases ht
/-- The condition of a part from the loop's head on. -/
def LoopCond (P : Program) (X : Exts) (tab : List (FuncId × Con)) (rels : Nat → RelSpec) (strat : Code → St → Option LoopS) (fn : Func) (can : Can) (cs : CutS) (next : Option (CutS × (St → Bool))) (bid : Nat) (b : Code) (n : Nat) : Prop :=
  alln (can.kinds.length + cs.n) fun ρ => (rels (cs.id + 1000)).pre ρ → pushK ρ 0 .e fun nv g => (cs.openK can.kinds.length can.kinds.length fn.ntmps fun st => codeR P X (callX P X tab 99) strat b (stopAt next can fn) (blockK bid (finK P fn)) 100000 st).vcT rels can (ρ.take can.kinds.length) n [] nv g
theorem loop_of {P : Program} {X : Exts} (hX : ExtOk P X) (hm : P.follows .mixedOrders = true) {rels : Nat → RelSpec} {tab : List (FuncId × Con)} (htab : ∀ f con, (f, con) ∈ tab → ConOk P rels f con) {strat : Code → St → Option LoopS}
    {fn : Func} {can : Can} {cs : CutS} {next : Option (CutS × (St → Bool))} {bid : Nat} {b : Code} (n : Nat) (hstrat : ∀ c st cs, strat c st = some cs → CutOk rels cs.sel.length cs.n cs.id) (hnext : NextOk P rels fn can bid b next)
    (h : LoopCond P X tab rels strat fn can cs next bid b n) : RestLoop P rels fn can cs bid b := by
  intro S0 w0 w ρi outs βi β' a Q hS hl hlb ho hpre hβ hK hr
  have h1 := alln_spec _ _ h (ρi ++ outs) (by simp [hl, ho]) hpre
  have h0 : InTr .e [] := fun i => by simp [Tr.get]
  obtain ⟨g', k1, k2⟩ := pushK_spec (ρi ++ outs) .e [] h0
  have k2' := k2 fun nv g => (cs.openK can.kinds.length can.kinds.length fn.ntmps fun st => codeR P X (callX P X tab 99) strat b (stopAt next can fn) (blockK bid (finK P fn)) 100000 st).vcT rels can ((ρi ++ outs).take can.kinds.length) n [] nv g
  simp only [List.nil_append, List.length_nil] at k2'
  rw [k2', CutS.openK_eq, ← hl, List.take_left] at h1
  simp only [List.nil_append] at k1
  have hvc := Tree.vc_of_vcT _ n [] (ρi ++ outs) g' k1 (fun i b e => by simp [lookA] at e) h1
  rw [← hl] at hr
  exact codeR_sound hX hm (callX_sound hX hm htab 99) hstrat (blockK_ok hK) (stopAt_ok hnext hS hl hlb hK) 100000 a w ⟨ρi ++ outs, β', _, Ext.app _ _, hβ, hvc, hr⟩
/-- The condition of the part that leads into the loop. -/
def HeadCond (P : Program) (X : Exts) (tab : List (FuncId × Con)) (rels : Nat → RelSpec) (strat : Code → St → Option LoopS) (fn : Func) (can : Can) (cs : CutS) (next : Option (CutS × (St → Bool))) (r : Code) (bid : Nat) (b : Code) (n : Nat) : Prop :=
  alln (can.kinds.length + cs.n) fun ρ => (rels (cs.id + 1000)).pre ρ → pushK ρ 0 .e fun nv g => (cs.openK can.kinds.length can.kinds.length fn.ntmps fun st => codeL P X (callX P X tab 99) strat 100000 r st { finK P fn with nrm := fun st => codeR P X (callX P X tab 99) strat b (stopAt next can fn) (blockK bid (finK P fn)) 100000 st }).vcT rels can (ρ.take can.kinds.length) n [] nv g
theorem head_of {P : Program} {X : Exts} (hX : ExtOk P X) (hm : P.follows .mixedOrders = true) {rels : Nat → RelSpec} {tab : List (FuncId × Con)} (htab : ∀ f con, (f, con) ∈ tab → ConOk P rels f con) {strat : Code → St → Option LoopS}
    {fn : Func} {can : Can} {cs : CutS} {next : Option (CutS × (St → Bool))} {r : Code} {bid : Nat} {b : Code} (n : Nat) (hstrat : ∀ c st cs, strat c st = some cs → CutOk rels cs.sel.length cs.n cs.id) (hnext : NextOk P rels fn can bid b next)
    (h : HeadCond P X tab rels strat fn can cs next r bid b n) : RestOk P rels fn can cs (.seq r (.block bid (.loop b))) := by
  intro S0 w0 w ρi outs βi β' a Q hS hl hlb ho hpre hβ hK hr
  have h1 := alln_spec _ _ h (ρi ++ outs) (by simp [hl, ho]) hpre
  have h0 : InTr .e [] := fun i => by simp [Tr.get]
  obtain ⟨g', k1, k2⟩ := pushK_spec (ρi ++ outs) .e [] h0
  have k2' := k2 fun nv g => (cs.openK can.kinds.length can.kinds.length fn.ntmps fun st => codeL P X (callX P X tab 99) strat 100000 r st { finK P fn with nrm := fun st => codeR P X (callX P X tab 99) strat b (stopAt next can fn) (blockK bid (finK P fn)) 100000 st }).vcT rels can ((ρi ++ outs).take can.kinds.length) n [] nv g
  simp only [List.nil_append, List.length_nil] at k2'
  rw [k2', CutS.openK_eq, ← hl, List.take_left] at h1
  simp only [List.nil_append] at k1
  have hvc := Tree.vc_of_vcT _ n [] (ρi ++ outs) g' k1 (fun i b e => by simp [lookA] at e) h1
  rw [← hl] at hr
  refine wp_seq (codeL_sound hX hm (callX_sound hX hm htab 99) hstrat 100000 r { finK P fn with nrm := fun st => codeR P X (callX P X tab 99) strat b (stopAt next can fn) (blockK bid (finK P fn)) 100000 st } (Exit.then ((Code.block bid (.loop b)).wp P Q) Q) ρi βi ⟨?_, hK.ret, hK.ext, hK.pan⟩ a w ⟨ρi ++ outs, β', _, Ext.app _ _, hβ, hvc, hr⟩).wp
  exact fun a w hp => wp_block (codeR_sound hX hm (callX_sound hX hm htab 99) hstrat (blockK_ok hK) (stopAt_ok hnext hS hl hlb hK) 100000 a w hp).wp
end Go.Sx

/- As SxSeg2, with more behind the loop; and a part between two canonical states. -/
namespace Go.Sx
open Go

/-- The condition of a part of k statements, from a canonical state to the next one. -/
def MidCond (P : Program) (X : Exts) (tab : List (FuncId × Con)) (rels : Nat → RelSpec) (strat : Code → St → Option LoopS) (fn : Func) (can : Can) (cs cs' : CutS) (k : Nat) (c : Code) (n : Nat) : Prop :=
  alln (can.kinds.length + cs.n) fun ρ => (rels (cs.id + 1000)).pre ρ → pushK ρ 0 .e fun nv g => (cs.openK can.kinds.length can.kinds.length fn.ntmps fun st => spineL P X (callX P X tab 99) strat (cs'.stopK can.kinds.length can.hp.length fn.ntmps) k c st (finK P fn)).vcT rels can (ρ.take can.kinds.length) n [] nv g
theorem part_of {P : Program} {X : Exts} (hX : ExtOk P X) (hm : P.follows .mixedOrders = true) {rels : Nat → RelSpec} {tab : List (FuncId × Con)} (htab : ∀ f con, (f, con) ∈ tab → ConOk P rels f con) {strat : Code → St → Option LoopS}
    {fn : Func} {can : Can} {cs cs' : CutS} {k : Nat} {c : Code} (n : Nat) (hstrat : ∀ c st cs, strat c st = some cs → CutOk rels cs.sel.length cs.n cs.id) (hnext : RestOk P rels fn can cs' (restC k c))
    (h : MidCond P X tab rels strat fn can cs cs' k c n) : RestOk P rels fn can cs c := by
  intro S0 w0 w ρi outs βi β' a Q hS hl hlb ho hpre hβ hK hr
  have h1 := alln_spec _ _ h (ρi ++ outs) (by simp [hl, ho]) hpre
  have h0 : InTr .e [] := fun i => by simp [Tr.get]
  obtain ⟨g', k1, k2⟩ := pushK_spec (ρi ++ outs) .e [] h0
  have k2' := k2 fun nv g => (cs.openK can.kinds.length can.kinds.length fn.ntmps fun st => spineL P X (callX P X tab 99) strat (cs'.stopK can.kinds.length can.hp.length fn.ntmps) k c st (finK P fn)).vcT rels can ((ρi ++ outs).take can.kinds.length) n [] nv g
  simp only [List.nil_append, List.length_nil] at k2'
  rw [k2', CutS.openK_eq, ← hl, List.take_left] at h1
  simp only [List.nil_append] at k1
  have hvc := Tree.vc_of_vcT _ n [] (ρi ++ outs) g' k1 (fun i b e => by simp [lookA] at e) h1
  rw [← hl] at hr
  refine spineL_sound hX hm (callX_sound hX hm htab 99) hstrat (ρb := ρi) (βb := βi) hK k c (fun a w hp => ?_) a w ⟨ρi ++ outs, β', _, Ext.app _ _, hβ, hvc, hr⟩
  obtain ⟨outs', ho', hpre', β'', hβ', hr'⟩ := CutS.stop_sound (cs := cs') (nt := fn.ntmps) (rels := rels) (Q0 := can.endQ rels ρi) hS (by rw [hlb]; exact hp)
  rw [hl] at hr'
  exact hnext S0 w0 w ρi outs' βi β'' a Q hS hl hlb ho' hpre' hβ' hK hr'

def tailK (P : Program) (X : Exts) (tab : List (FuncId × Con)) (strat : Code → St → Option LoopS) (fn : Func) (t : Code) : Kont := { finK P fn with nrm := fun st => codeL P X (callX P X tab 99) strat 100000 t st (finK P fn) }
theorem tailK_ok {P : Program} {X : Exts} (hX : ExtOk P X) (hm : P.follows .mixedOrders = true) {rels : Nat → RelSpec} {tab : List (FuncId × Con)} (htab : ∀ f con, (f, con) ∈ tab → ConOk P rels f con) {strat : Code → St → Option LoopS}
    (hstrat : ∀ c st cs, strat c st = some cs → CutOk rels cs.sel.length cs.n cs.id) {fn : Func} {t : Code} {Q0 : Env → AV → List Reg → Prop} {S0 : Old} {w0 : World} {ρb : Env} {βb : Base} {Q : Exit → Act → World → Prop}
    (hK : KOk rels Q0 S0 w0 ρb βb (finK P fn) Q) : KOk rels Q0 S0 w0 ρb βb (tailK P X tab strat fn t) (Exit.then (t.wp P Q) Q) :=
  ⟨fun a w hp => (codeL_sound hX hm (callX_sound hX hm htab 99) hstrat 100000 t (finK P fn) Q ρb βb hK a w hp).wp, hK.ret, hK.ext, hK.pan⟩

/-- What is left of a function at the head of a loop, t behind it. -/
def RestLoopT (P : Program) (rels : Nat → RelSpec) (fn : Func) (can : Can) (cs : CutS) (bid : Nat) (b t : Code) : Prop :=
  ∀ (S0 : Old) (w0 w : World) (ρi outs : Env) (βi β' : Base) (a : Act) (Q : Exit → Act → World → Prop), S0.n0 = βi.length → ρi.length = can.kinds.length → βi.length = can.hp.length → outs.length = cs.n → (rels (cs.id + 1000)).pre (ρi ++ outs) → Ext βi β' →
    KOk rels (can.endQ rels ρi) S0 w0 ρi βi (finK P fn) Q → Rel S0 (ρi ++ outs) β' w0 (cs.openS can.kinds.length can.kinds.length fn.ntmps) a w → LoopWp P b (Exit.inBlock bid (Exit.then (t.wp P Q) Q)) a w
def NextOkT (P : Program) (rels : Nat → RelSpec) (fn : Func) (can : Can) (bid : Nat) (b t : Code) (next : Option (CutS × (St → Bool))) : Prop := match next with
  | none => True
  | some (cs, _) => RestLoopT P rels fn can cs bid b t
theorem stopAt_okT {P : Program} {rels : Nat → RelSpec} {fn : Func} {can : Can} {bid : Nat} {b t : Code} {next : Option (CutS × (St → Bool))} (hn : NextOkT P rels fn can bid b t next) {S0 : Old} {w0 : World} {ρi : Env} {βi : Base} {Q : Exit → Act → World → Prop}
    (hS : S0.n0 = βi.length) (hl : ρi.length = can.kinds.length) (hlb : βi.length = can.hp.length) (hK : KOk rels (can.endQ rels ρi) S0 w0 ρi βi (finK P fn) Q) :
    ∀ a w ρ β st tr, Ext ρi ρ → Ext βi β → stopAt next can fn st = some tr → tr.vc rels (can.endQ rels ρi) ρ → Rel S0 ρ β w0 st a w → LoopWp P b (Exit.inBlock bid (Exit.then (t.wp P Q) Q)) a w := by
  intro a w ρ β st tr hρ hβ ht hv hr
  unfold stopAt at ht
  split at ht
  · cases ht
  · rename_i cs q
    split at ht
    · obtain rfl := Option.some.inj ht
      obtain ⟨outs, ho, hpre, β', hβ', hr'⟩ := CutS.stop_sound (cs := cs) (nt := fn.ntmps) (rels := rels) (Q0 := can.endQ rels ρi) hS ⟨ρ, β, st, hρ, hβ, by rw [hl, hlb]; exact hv, hr⟩
      rw [hl] at hr'
      exact hn S0 w0 w ρi outs βi β' a Q hS hl hlb ho hpre hβ' hK hr'
    · cases ht
def LoopCondT (P : Program) (X : Exts) (tab : List (FuncId × Con)) (rels : Nat → RelSpec) (strat : Code → St → Option LoopS) (fn : Func) (can : Can) (cs : CutS) (next : Option (CutS × (St → Bool))) (bid : Nat) (b t : Code) (n : Nat) : Prop :=
  alln (can.kinds.length + cs.n) fun ρ => (rels (cs.id + 1000)).pre ρ → pushK ρ 0 .e fun nv g => (cs.openK can.kinds.length can.kinds.length fn.ntmps fun st => codeR P X (callX P X tab 99) strat b (stopAt next can fn) (blockK bid (tailK P X tab strat fn t)) 100000 st).vcT rels can (ρ.take can.kinds.length) n [] nv g
theorem loop_ofT {P : Program} {X : Exts} (hX : ExtOk P X) (hm : P.follows .mixedOrders = true) {rels : Nat → RelSpec} {tab : List (FuncId × Con)} (htab : ∀ f con, (f, con) ∈ tab → ConOk P rels f con) {strat : Code → St → Option LoopS}
    {fn : Func} {can : Can} {cs : CutS} {next : Option (CutS × (St → Bool))} {bid : Nat} {b t : Code} (n : Nat) (hstrat : ∀ c st cs, strat c st = some cs → CutOk rels cs.sel.length cs.n cs.id) (hnext : NextOkT P rels fn can bid b t next)
    (h : LoopCondT P X tab rels strat fn can cs next bid b t n) : RestLoopT P rels fn can cs bid b t := by
  intro S0 w0 w ρi outs βi β' a Q hS hl hlb ho hpre hβ hK hr
  have h1 := alln_spec _ _ h (ρi ++ outs) (by simp [hl, ho]) hpre
  have h0 : InTr .e [] := fun i => by simp [Tr.get]
  obtain ⟨g', k1, k2⟩ := pushK_spec (ρi ++ outs) .e [] h0
  have k2' := k2 fun nv g => (cs.openK can.kinds.length can.kinds.length fn.ntmps fun st => codeR P X (callX P X tab 99) strat b (stopAt next can fn) (blockK bid (tailK P X tab strat fn t)) 100000 st).vcT rels can ((ρi ++ outs).take can.kinds.length) n [] nv g
  simp only [List.nil_append, List.length_nil] at k2'
  rw [k2', CutS.openK_eq, ← hl, List.take_left] at h1
  simp only [List.nil_append] at k1
  have hvc := Tree.vc_of_vcT _ n [] (ρi ++ outs) g' k1 (fun i b e => by simp [lookA] at e) h1
  rw [← hl] at hr
  exact codeR_sound hX hm (callX_sound hX hm htab 99) hstrat (blockK_ok (tailK_ok hX hm htab hstrat hK)) (stopAt_okT hnext hS hl hlb hK) 100000 a w ⟨ρi ++ outs, β', _, Ext.app _ _, hβ, hvc, hr⟩
def HeadCondT (P : Program) (X : Exts) (tab : List (FuncId × Con)) (rels : Nat → RelSpec) (strat : Code → St → Option LoopS) (fn : Func) (can : Can) (cs : CutS) (next : Option (CutS × (St → Bool))) (r : Code) (bid : Nat) (b t : Code) (n : Nat) : Prop :=
  alln (can.kinds.length + cs.n) fun ρ => (rels (cs.id + 1000)).pre ρ → pushK ρ 0 .e fun nv g => (cs.openK can.kinds.length can.kinds.length fn.ntmps fun st => codeL P X (callX P X tab 99) strat 100000 r st { tailK P X tab strat fn t with nrm := fun st => codeR P X (callX P X tab 99) strat b (stopAt next can fn) (blockK bid (tailK P X tab strat fn t)) 100000 st }).vcT rels can (ρ.take can.kinds.length) n [] nv g
theorem head_ofT {P : Program} {X : Exts} (hX : ExtOk P X) (hm : P.follows .mixedOrders = true) {rels : Nat → RelSpec} {tab : List (FuncId × Con)} (htab : ∀ f con, (f, con) ∈ tab → ConOk P rels f con) {strat : Code → St → Option LoopS}
    {fn : Func} {can : Can} {cs : CutS} {next : Option (CutS × (St → Bool))} {r : Code} {bid : Nat} {b t : Code} (n : Nat) (hstrat : ∀ c st cs, strat c st = some cs → CutOk rels cs.sel.length cs.n cs.id) (hnext : NextOkT P rels fn can bid b t next)
    (h : HeadCondT P X tab rels strat fn can cs next r bid b t n) : RestOk P rels fn can cs (.seq (.seq r (.block bid (.loop b))) t) := by
  intro S0 w0 w ρi outs βi β' a Q hS hl hlb ho hpre hβ hK hr
  have h1 := alln_spec _ _ h (ρi ++ outs) (by simp [hl, ho]) hpre
  have h0 : InTr .e [] := fun i => by simp [Tr.get]
  obtain ⟨g', k1, k2⟩ := pushK_spec (ρi ++ outs) .e [] h0
  have k2' := k2 fun nv g => (cs.openK can.kinds.length can.kinds.length fn.ntmps fun st => codeL P X (callX P X tab 99) strat 100000 r st { tailK P X tab strat fn t with nrm := fun st => codeR P X (callX P X tab 99) strat b (stopAt next can fn) (blockK bid (tailK P X tab strat fn t)) 100000 st }).vcT rels can ((ρi ++ outs).take can.kinds.length) n [] nv g
  simp only [List.nil_append, List.length_nil] at k2'
  rw [k2', CutS.openK_eq, ← hl, List.take_left] at h1
  simp only [List.nil_append] at k1
  have hvc := Tree.vc_of_vcT _ n [] (ρi ++ outs) g' k1 (fun i b e => by simp [lookA] at e) h1
  rw [← hl] at hr
  have hT := tailK_ok (t := t) hX hm htab hstrat hK
  refine wp_seq (wp_seq (codeL_sound hX hm (callX_sound hX hm htab 99) hstrat 100000 r { tailK P X tab strat fn t with nrm := fun st => codeR P X (callX P X tab 99) strat b (stopAt next can fn) (blockK bid (tailK P X tab strat fn t)) 100000 st } (Exit.then ((Code.block bid (.loop b)).wp P (Exit.then (t.wp P Q) Q)) (Exit.then (t.wp P Q) Q)) ρi βi ⟨?_, hT.ret, hT.ext, hT.pan⟩ a w ⟨ρi ++ outs, β', _, Ext.app _ _, hβ, hvc, hr⟩).wp)
  exact fun a w hp => wp_block (codeR_sound hX hm (callX_sound hX hm htab 99) hstrat (blockK_ok hT) (stopAt_okT hnext hS hl hlb hK) 100000 a w hp).wp
end Go.Sx
