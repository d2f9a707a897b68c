/- One order of a region that draws its order serves every order. A reader may be taken first as soon as nothing stands before it; what it read must then stay as it was behind every operation that is not bound behind it. -/
import Derived.Orders
import Derived.WalkKit
import Derived.Deep.AppendSrc
import Derived.Laws.MakeOwn
import Derived.Laws.RangeString
set_option linter.unusedVariables false
set_option linter.unusedSimpArgs false
set_option linter.constructorNameAsVariable false
namespace Go.Sx
open Go
section
variable {P : Program} {ops : Array Oper} {Q : Exit → Act → World → Prop}

def Holds (S : List (Addr × Value)) (w : World) : Prop := ∀ p ∈ S, w.cell? p.1 = some p.2

/-- The operation yields v wherever the cells S hold, and leaves the world alone; or its guard passes it over. -/
def Reads (P : Program) (ops : Array Oper) (o : Oper) (S : List (Addr × Value)) (v : Value) (a : Act) : Prop :=
  (Region.wanted o (yielded ops a.tmps) = true ∧ ∀ w, Holds S w → (execOp a.eval o).run P w = .ok (.value v) w) ∨
  (Region.wanted o (yielded ops a.tmps) = false ∧ v = undef)

theorem Reads.wpOp {i : Nat} {o : Oper} {S : List (Addr × Value)} {v : Value} {a : Act} (hi : ops[i]? = some o) (hy : Reads P ops o S v a)
    {K : Act → World → Prop} {w : World} (hS : Holds S w) (h : K (a.put o.dst v) w) : wpOp P ops Q i K a w := by
  unfold Go.wpOp
  simp only [hi]
  rcases hy with ⟨hw, hv⟩ | ⟨hw, rfl⟩
  · simp only [hw, if_true, Oper.wp, hv w hS, Oper.upon]; exact .inl h
  · simp only [hw, Bool.false_eq_true, if_false]; exact h

theorem Reads.of_same {o : Oper} {S : List (Addr × Value)} {v : Value} {a a' : Act} (hy : Reads P ops o S v a) (he : execOp a'.eval o = execOp a.eval o)
    (hw : Region.wanted o (yielded ops a'.tmps) = Region.wanted o (yielded ops a.tmps)) : Reads P ops o S v a' := by
  unfold Reads at *
  rw [he, hw]
  exact hy

theorem wpOp_putG {j : Nat} {oi oj : Oper} {S : List (Addr × Value)} {v : Value} (hj : ops[j]? = some oj) (hap : oi.apart ops oj = true)
    (hsi : ∀ cs b, oi.op ≠ .select cs b) (hsj : ∀ cs b, oj.op ≠ .select cs b)
    (hQ : ∀ c a w, ¬ Q (.panic c) a w) {K : Act → World → Prop} {a : Act} {w : World}
    (hy : Reads P ops oi S v a) (h : wpOp P ops Q j K (a.put oi.dst v) w) :
    wpOp P ops Q j (fun a' w' => Reads P ops oi S v a' ∧ K (a'.put oi.dst v) w') a w := by
  obtain ⟨h1, h2, h3⟩ := Oper.apart_spec hap
  have keep : ∀ (a : Act), Reads P ops oi S v a → ∀ u, Reads P ops oi S v (a.put oj.dst u) := fun a hy u =>
    hy.of_same (execOp_put oi hsi a oj.dst u h3) (wanted_put oi a oj.dst u h3)
  have keepD : ∀ d, Reads P ops oi S v { a with defers := d :: a.defers } := fun d => hy.of_same rfl rfl
  unfold wpOp at *
  simp only [hj] at *
  rw [wanted_put oj a oi.dst v h1] at h
  split
  · rename_i hw
    simp only [hw, if_true] at h
    rcases h with h | ⟨hasks, hlets⟩
    case inr => exact .inr ⟨by unfold Oper.asks at *; rw [execOp_put oj hsj a oi.dst v h1] at hasks; exact hasks, hlets⟩
    refine .inl ?_
    unfold Oper.wp at *
    rw [execOp_put oj hsj a oi.dst v h1] at h
    generalize (execOp a.eval oj).run P w = r at *
    cases r with
    | ok n w' =>
      cases n <;> simp only [Oper.upon] at h ⊢
      case value u => exact ⟨keep a hy u, by rw [← Act.put_comm a v u h2]; exact h⟩
      case skip => exact ⟨keep a hy _, by rw [← Act.put_comm a v undef h2]; exact h⟩
      case defer d =>
        refine ⟨keep _ (keepD d) _, ?_⟩
        rw [← Act.put_comm _ v undef h2, ← Act.put_defers]
        exact h
      case enter f args =>
        refine Calls.mono h fun e w'' he => ?_
        cases e with
        | returned u => exact ⟨keep a hy u, by rw [← Act.put_comm a v u h2]; exact he⟩
        | panicked c => exact (hQ _ _ _ he).elim
        | outgrown => exact he
      case row row args => exact Rows.mono h fun u w'' he => ⟨keep a hy u, by rw [← Act.put_comm a v u h2]; exact he⟩
    | halt x w' =>
      cases x <;> simp only [Oper.upon] at h ⊢
      case panic u => exact (hQ _ _ _ h).elim
  · rename_i hw
    simp only [hw] at h
    exact ⟨keep a hy _, by rw [← Act.put_comm a v undef h2]; exact h⟩

/-- Facts on the world, each with the operations that are bound behind what needs it. -/
abbrev Facts := List (List Nat × (World → Prop))
def holdsF (F : Facts) (w : World) : Prop := ∀ p ∈ F, p.2 w
def dropF (F : Facts) (i : Nat) : Facts := F.filter fun p => !p.1.contains i
theorem mem_dropF {F : Facts} {i : Nat} {p : List Nat × (World → Prop)} : p ∈ dropF F i ↔ p ∈ F ∧ i ∉ p.1 := by
  simp [dropF]

def wpAnyF (P : Program) (ops : Array Oper) (Q : Exit → Act → World → Prop) : Nat → Facts → Array Bool → Act → World → Prop
  | 0, _, listed, a, w => Region.ready .any ops listed = [] ∧ Q .normal a w
  | fuel + 1, F, listed, a, w =>
    (Region.ready .any ops listed = [] → Q .normal a w) ∧
    ∀ i ∈ Region.ready .any ops listed, wpOp P ops Q i (fun a' w' => holdsF (dropF F i) w' ∧ wpAnyF P ops Q fuel (dropF F i) (listed.setIfInBounds i true) a' w') a w

theorem wpAnyF_weaken : ∀ (fuel : Nat) {F F' : Facts} {listed : Array Bool} {a : Act} {w : World}, (∀ p ∈ F, p ∈ F') → wpAnyF P ops Q fuel F' listed a w → wpAnyF P ops Q fuel F listed a w
  | 0, _, _, _, _, _, _, h => h
  | fuel + 1, F, F', listed, a, w, hs, h => ⟨h.1, fun i hi => wpOp_mono (fun a' w' ⟨h1, h2⟩ => by
      have hd : ∀ p ∈ dropF F i, p ∈ dropF F' i := fun p hp => by rw [mem_dropF] at *; exact ⟨hs p hp.1, hp.2⟩
      exact ⟨fun p hp => h1 p (hd p hp), wpAnyF_weaken fuel hd h2⟩) (h.2 i hi)⟩

theorem wpAny_of_F : ∀ (fuel : Nat) {F : Facts} {listed : Array Bool} {a : Act} {w : World}, wpAnyF P ops Q fuel F listed a w → wpAny P .any ops Q fuel listed a w
  | 0, _, _, _, _, h => h
  | fuel + 1, _, _, _, _, h => ⟨h.1, fun i hi => wpOp_mono (fun a' w' h => wpAny_of_F fuel h.2) (h.2 i hi)⟩

/-- Operation i, a reader that is ready, may be taken first: D holds all that is bound behind it. -/
theorem wpAnyF_first {i : Nat} {oi : Oper} {S : List (Addr × Value)} {v : Value} {D : List Nat} (hi : ops[i]? = some oi)
    (hsel : ∀ (j : Nat) (o : Oper) cs b, ops[j]? = some o → o.op ≠ .select cs b) (hQ : ∀ c a w, ¬ Q (.panic c) a w)
    (hDi : i ∈ D) (hD : ∀ j oj, ops[j]? = some oj → j ∈ D → j ≠ i → ∃ e ∈ oj.after, Region.binds .any e = true ∧ e.on ∈ D) :
    ∀ (fuel : Nat) (F : Facts) (listed : Array Bool) (a : Act) (w : World),
      (∀ j, j ∈ D → listed.getD j false = false) →
      (∀ j oj, ops[j]? = some oj → j ∉ D → listed.getD j true = false → oi.apart ops oj = true) →
      i ∈ Region.ready .any ops listed → Holds S w → Reads P ops oi S v a → holdsF F w →
      wpAnyF P ops Q fuel ((D, Holds S) :: F) (listed.setIfInBounds i true) (a.put oi.dst v) w → wpAnyF P ops Q (fuel + 1) F listed a w := by
  have here : ∀ (fuel : Nat) (F : Facts) (listed : Array Bool) (a : Act) (w : World), Holds S w → Reads P ops oi S v a → holdsF F w → wpAnyF P ops Q fuel ((D, Holds S) :: F) (listed.setIfInBounds i true) (a.put oi.dst v) w →
      wpOp P ops Q i (fun a' w' => holdsF (dropF F i) w' ∧ wpAnyF P ops Q fuel (dropF F i) (listed.setIfInBounds i true) a' w') a w := fun fuel F listed a w hS hy hF H =>
    hy.wpOp hi hS ⟨fun p hp => hF p (mem_dropF.1 hp).1, wpAnyF_weaken fuel (fun p hp => List.mem_cons_of_mem _ (mem_dropF.1 hp).1) H⟩
  intro fuel
  induction fuel with
  | zero =>
    intro F listed a w _ _ hr hS hy hF H
    refine ⟨fun h => (by rw [h] at hr; cases hr), fun j hj => ?_⟩
    by_cases hji : j = i
    · subst hji; exact here 0 F listed a w hS hy hF H
    · have := ready_mono hj hji
      rw [H.1] at this
      cases this
  | succ fuel ih =>
    intro F listed a w hun hfree hr hS hy hF H
    refine ⟨fun h => (by rw [h] at hr; cases hr), fun j hj => ?_⟩
    by_cases hji : j = i
    · subst hji; exact here (fuel + 1) F listed a w hS hy hF H
    · have h1 := H.2 j (ready_mono hj hji)
      obtain ⟨hjun, oj, hoj, hall⟩ := mem_ready.1 hj
      have hnD : j ∉ D := fun hDj => by
        obtain ⟨e, he, hb, hDe⟩ := hD j oj hoj hDj hji
        have := hall e he hb
        rw [hun _ hDe] at this
        cases this
      have h2 := wpOp_putG hoj (hfree j oj hoj hnD hjun) (fun cs b => hsel i oi cs b hi) (fun cs b => hsel j oj cs b hoj) hQ hy h1
      have hun' : ∀ k, k ∈ D → (listed.setIfInBounds j true).getD k false = false := fun k hk => by
        have hne : j ≠ k := fun e => hnD (e ▸ hk)
        rw [getD_set_ne false hne]; exact hun k hk
      have hfree' : ∀ k ok, ops[k]? = some ok → k ∉ D → (listed.setIfInBounds j true).getD k true = false → oi.apart ops ok = true := fun k ok hk hkD hu => by
        refine hfree k ok hk hkD ?_
        by_cases hjk : j = k
        · subst hjk; exact hjun
        · rw [getD_set_ne true hjk] at hu; exact hu
      have hdrop : dropF ((D, Holds S) :: F) j = (D, Holds S) :: dropF F j := by
        simp [dropF, hnD]
      rw [hdrop] at h2
      refine wpOp_mono (fun a' w' h3 => ?_) h2
      obtain ⟨hy', hF', hK⟩ := h3
      have hF2 : holdsF (dropF F j) w' := fun p hp => hF' p (List.mem_cons_of_mem _ hp)
      refine ⟨hF2, ih (dropF F j) (listed.setIfInBounds j true) a' w' hun' hfree' (ready_mono hr (Ne.symm hji)) (hF' _ (List.mem_cons_self)) hy' hF2 ?_⟩
      rw [Array.setIfInBounds_comm _ _ hji]
      exact hK
end
end Go.Sx

/- A symbolic executor for the model's code: values with variables for integers, memory as numbered regions. -/
namespace Go.Sx
open Go

/-- An integer that is known, or a variable. -/
inductive Src where
  | c (n : Int)
  | v (i : Nat)

/-- A value of one cell. 'und': nothing is known. -/
inductive Sc where
  | und
  | bool (b : Bool)
  | boolv (i : Nat)
  | int (k : IntKind) (n : Int)
  | var (k : IntKind) (i : Nat)
  | ptr (r o : Nat)
  | nilp
  | slice (r o len cap : Nat)
  | sliceU (r o len : Nat)
  /-- Of the capacity: at least lo, below hi. -/
  | sliceW (r o len lo hi : Nat)
  /-- A slice of which its length alone is known: a number. -/
  | sliceV (i : Nat)
  /-- Its capacity a number. -/
  | sliceC (r o len i : Nat)
  /-- A slice from its region's start on, of which its length is a number. -/
  | sliceN (r i : Nat)
  | nils
  | str (s : ByteArray)
  | func (f : FuncId)
  | iface (t : TypeId) (v : Sc)
  | nilIface

inductive A1 where
  | s (x : Sc)
  | g (cs : List Sc)

inductive AV where
  | one (a : A1)
  | tup (vs : List A1)

abbrev Env := List Int
abbrev Base := List (Nat × Nat)

def All2 {α β : Type} (R : α → β → Prop) : List α → List β → Prop
  | [], [] => True
  | a :: l, b :: m => R a b ∧ All2 R l m
  | _, _ => False

def kmin : IntKind → Int
  | .i8 => -128 | .i16 => -32768 | .i32 => -2147483648 | .i64 => -9223372036854775808 | _ => 0
def kmax : IntKind → Int
  | .i8 => 127 | .i16 => 32767 | .i32 => 2147483647 | .i64 => 9223372036854775807
  | .u8 => 255 | .u16 => 65535 | .u32 => 4294967295 | .u64 => 18446744073709551615
/-- The number fits its kind. -/
def Fits (k : IntKind) (n : Int) : Prop := kmin k ≤ n ∧ n ≤ kmax k

def Sc.R (ρ : Env) (β : Base) : Sc → Value → Prop
  | .und, _ => True
  | .bool b, v => v = .bool b
  | .boolv i, v => ∃ n, ρ[i]? = some n ∧ v = .bool (n != 0)
  | .int k n, v => v = .int k n ∧ Fits k n
  | .var k i, v => ∃ n, ρ[i]? = some n ∧ v = .int k n ∧ Fits k n
  | .ptr r o, v => ∃ b, β[r]? = some b ∧ v = .pointer (some ⟨b.1, b.2 + o, none⟩)
  | .nilp, v => v = .pointer none
  | .slice r o len cap, v => ∃ b, β[r]? = some b ∧ v = .slice (some ⟨b.1, b.2 + o, none⟩) len cap
  | .sliceU r o len, v => ∃ b cap, β[r]? = some b ∧ v = .slice (some ⟨b.1, b.2 + o, none⟩) len cap ∧ len ≤ cap
  | .sliceW r o len lo hi, v => ∃ b cap, β[r]? = some b ∧ v = .slice (some ⟨b.1, b.2 + o, none⟩) len cap ∧ lo ≤ cap ∧ cap < hi
  | .sliceV i, v => ∃ (n : Nat) (p : Option Addr) (cap : Nat), ρ[i]? = some (n : Int) ∧ v = .slice p n cap ∧ Fits .i64 n
  | .sliceC r o len i, v => ∃ b n, β[r]? = some b ∧ ρ[i]? = some ((n : Nat) : Int) ∧ v = .slice (some ⟨b.1, b.2 + o, none⟩) len n ∧ len ≤ n ∧ Fits .i64 n
  | .sliceN r i, v => ∃ b n a cap, β[r]? = some b ∧ ρ[i]? = some ((n : Nat) : Int) ∧ v = .slice (some a) n cap ∧ (0 < n → a = ⟨b.1, b.2, none⟩) ∧ Fits .i64 n
  | .nils, v => v = .slice none 0 0
  | .str s, v => v = .string s
  | .func f, v => v = .func (.func f) #[] #[]
  | .iface t x, v => ∃ u, v = .iface t u ∧ x.R ρ β u
  | .nilIface, v => v = .nilIface

def A1.R (ρ : Env) (β : Base) : A1 → Value → Prop
  | .s x, v => x.R ρ β v
  | .g cs, v => ∃ us : List Value, v = .agg us.toArray ∧ All2 (Sc.R ρ β) cs us

def AV.R (ρ : Env) (β : Base) : AV → Value → Prop
  | .one a, v => a.R ρ β v
  | .tup vs, v => ∃ us : List Value, v = .tuple us.toArray ∧ All2 (A1.R ρ β) vs us

/-- What is known of a cell that may be stored: not 'und'. -/
def Sc.known : Sc → Bool
  | .und => false
  | _ => true

inductive Ins where
  | bin (op : BinOp) (k : IntKind) (x y : Src)
  | cmp (op : BinOp) (x y : Src)
  | conv (k : IntKind) (x : Src)
  | un (op : UnOp) (k : IntKind) (x : Src)
  | notb (i : Nat)
  | add64 (x y c : Src)
  | sub64 (x y c : Src)
  | call (id : Nat) (xs : List Src) (n : Nat)

structure Reg where
  cs : List Sc
  rw : Bool
  it : Option (ByteArray × Nat) := none
  /-- So many cells are there from the start on (a number), whatever they hold. -/
  bulk : Option Nat := none

inductive Tree where
  | bad (why : Nat)
  | fin (v : AV) (hp : List Reg)
  | ins (i : Ins) (t : Tree)
  | ite (i : Nat) (a b : Tree)
  | both (a b : Tree)

/-! ### The frame: a tree of slots -/
inductive Tr (α : Type) where
  | e
  | n (v : Option α) (l r : Tr α)

def Tr.get {α : Type} : Tr α → Nat → Option α
  | .e, _ => none
  | .n v l r, k => if k = 0 then v else if k % 2 = 1 then l.get (k / 2) else r.get (k / 2 - 1)

/-- fuel: any number above k -/
def Tr.setK {α β : Type} : Nat → Tr α → Nat → α → (Tr α → β) → β
  | 0, t, _, _, c => c t
  | f + 1, .e, k, x, c => if k = 0 then c (.n (some x) .e .e) else if k % 2 = 1 then Tr.setK f .e (k / 2) x (fun l => c (.n none l .e)) else Tr.setK f .e (k / 2 - 1) x (fun r => c (.n none .e r))
  | f + 1, .n v l r, k, x, c => if k = 0 then c (.n (some x) l r) else if k % 2 = 1 then Tr.setK f l (k / 2) x (fun l => c (.n v l r)) else Tr.setK f r (k / 2 - 1) x (fun r => c (.n v l r))

theorem Tr.setK_spec {α : Type} : ∀ (f : Nat) (t : Tr α) (k : Nat) (x : α), k < f →
    ∃ t', (∀ {β : Type} (c : Tr α → β), t.setK f k x c = c t') ∧ ∀ j, t'.get j = if j = k then some x else t.get j := by
  intro f
  induction f with
  | zero => intro t k x h; omega
  | succ f ih =>
    intro t k x hk
    cases t with
    | e =>
      by_cases h0 : k = 0
      · refine ⟨.n (some x) .e .e, fun c => by simp [Tr.setK, h0], fun j => ?_⟩
        subst h0
        simp only [Tr.get]
        split <;> simp
      · by_cases h1 : k % 2 = 1
        · obtain ⟨l, hl, hg⟩ := ih .e (k / 2) x (by omega)
          refine ⟨.n none l .e, fun c => by simp [Tr.setK, h0, h1, hl], fun j => ?_⟩
          simp only [Tr.get, hg]
          repeat (first | split | omega | rfl)
          all_goals first | rfl | omega | skip
        · obtain ⟨r, hr, hg⟩ := ih .e (k / 2 - 1) x (by omega)
          refine ⟨.n none .e r, fun c => by simp [Tr.setK, h0, h1, hr], fun j => ?_⟩
          simp only [Tr.get, hg]
          repeat (first | split | omega | rfl)
          all_goals first | rfl | omega | skip
    | n v l r =>
      by_cases h0 : k = 0
      · refine ⟨.n (some x) l r, fun c => by simp [Tr.setK, h0], fun j => ?_⟩
        subst h0
        simp only [Tr.get]
        split <;> simp
      · by_cases h1 : k % 2 = 1
        · obtain ⟨l', hl, hg⟩ := ih l (k / 2) x (by omega)
          refine ⟨.n v l' r, fun c => by simp [Tr.setK, h0, h1, hl], fun j => ?_⟩
          simp only [Tr.get, hg]
          repeat (first | split | omega | rfl)
          all_goals first | rfl | omega | skip
        · obtain ⟨r', hr, hg⟩ := ih r (k / 2 - 1) x (by omega)
          refine ⟨.n v l r', fun c => by simp [Tr.setK, h0, h1, hr], fun j => ?_⟩
          simp only [Tr.get, hg]
          repeat (first | split | omega | rfl)
          all_goals first | rfl | omega | skip
end Go.Sx

/- The memory relation: regions of the abstract state and blocks of the world. -/
namespace Go.Sx
open Go

theorem All2.length {α β : Type} {R : α → β → Prop} : ∀ {l : List α} {m : List β}, All2 R l m → l.length = m.length
  | [], [], _ => rfl
  | _ :: _, _ :: _, h => by simp [h.2.length]
theorem All2.get {α β : Type} {R : α → β → Prop} : ∀ {l : List α} {m : List β}, All2 R l m → ∀ {i : Nat} {a : α}, l[i]? = some a → ∃ b, m[i]? = some b ∧ R a b
  | a :: l, b :: m, h, 0, x, e => by simp at e; subst e; exact ⟨b, rfl, h.1⟩
  | _ :: l, _ :: m, h, i + 1, x, e => by simp at e; simpa using h.2.get e
theorem All2.of_get {α β : Type} {R : α → β → Prop} : ∀ {l : List α} {m : List β}, l.length = m.length → (∀ (i : Nat) (a : α) (b : β), l[i]? = some a → m[i]? = some b → R a b) → All2 R l m
  | [], [], _, _ => trivial
  | a :: l, b :: m, h, k => ⟨k 0 a b rfl rfl, All2.of_get (by simpa using h) fun i x y hx hy => k (i + 1) x y (by simpa using hx) (by simpa using hy)⟩
theorem All2.mono {α β : Type} {R R' : α → β → Prop} (f : ∀ a b, R a b → R' a b) : ∀ {l : List α} {m : List β}, All2 R l m → All2 R' l m
  | [], [], _ => trivial
  | _ :: _, _ :: _, h => ⟨f _ _ h.1, h.2.mono f⟩
theorem All2.append {α β : Type} {R : α → β → Prop} : ∀ {l : List α} {m : List β} {l' : List α} {m' : List β}, All2 R l m → All2 R l' m' → All2 R (l ++ l') (m ++ m')
  | [], [], _, _, _, h => h
  | _ :: _, _ :: _, _, _, h, k => ⟨h.1, h.2.append k⟩

/-- The longer list. -/
def Ext {α : Type} (l l' : List α) : Prop := ∃ t, l' = l ++ t
theorem Ext.refl {α : Type} (l : List α) : Ext l l := ⟨[], by simp⟩
theorem Ext.trans {α : Type} {a b c : List α} (h : Ext a b) (k : Ext b c) : Ext a c := by
  obtain ⟨s, rfl⟩ := h; obtain ⟨t, rfl⟩ := k; exact ⟨s ++ t, by simp⟩
theorem Ext.app {α : Type} (l t : List α) : Ext l (l ++ t) := ⟨t, rfl⟩
theorem Ext.get {α : Type} {l l' : List α} (h : Ext l l') {i : Nat} {x : α} (e : l[i]? = some x) : l'[i]? = some x := by
  obtain ⟨t, rfl⟩ := h
  rw [List.getElem?_append_left (by
    rcases Nat.lt_or_ge i l.length with h | h
    · exact h
    · simp [List.getElem?_eq_none h] at e)]
  exact e

section
variable {ρ ρ' : Env} {β β' : Base}
theorem Sc.R_mono (hρ : Ext ρ ρ') (hβ : Ext β β') : ∀ (s : Sc) (v : Value), s.R ρ β v → s.R ρ' β' v
  | .und, _, _ => trivial
  | .bool _, _, h => h
  | .boolv _, _, ⟨n, h, e⟩ => ⟨n, hρ.get h, e⟩
  | .int .., _, h => h
  | .var .., _, ⟨n, h, e⟩ => ⟨n, hρ.get h, e⟩
  | .ptr .., _, ⟨b, h, e⟩ => ⟨b, hβ.get h, e⟩
  | .nilp, _, h => h
  | .slice .., _, ⟨b, h, e⟩ => ⟨b, hβ.get h, e⟩
  | .sliceU .., _, ⟨b, c, h, e⟩ => ⟨b, c, hβ.get h, e⟩
  | .sliceW .., _, ⟨b, c, h, e⟩ => ⟨b, c, hβ.get h, e⟩
  | .sliceV _, _, ⟨n, p, c, h, e⟩ => ⟨n, p, c, hρ.get h, e⟩
  | .sliceC .., _, ⟨b, n, h, e, f⟩ => ⟨b, n, hβ.get h, hρ.get e, f⟩
  | .sliceN .., _, ⟨b, n, a, c, h, e, f⟩ => ⟨b, n, a, c, hβ.get h, hρ.get e, f⟩
  | .nils, _, h => h
  | .str _, _, h => h
  | .func _, _, h => h
  | .iface _ x, _, ⟨u, e, h⟩ => ⟨u, e, Sc.R_mono hρ hβ x u h⟩
  | .nilIface, _, h => h
theorem A1.R_mono (hρ : Ext ρ ρ') (hβ : Ext β β') : ∀ (s : A1) (v : Value), s.R ρ β v → s.R ρ' β' v
  | .s x, v, h => Sc.R_mono hρ hβ x v h
  | .g _, _, ⟨us, e, h⟩ => ⟨us, e, h.mono fun a b => Sc.R_mono hρ hβ a b⟩
theorem AV.R_mono (hρ : Ext ρ ρ') (hβ : Ext β β') : ∀ (s : AV) (v : Value), s.R ρ β v → s.R ρ' β' v
  | .one x, v, h => A1.R_mono hρ hβ x v h
  | .tup _, _, ⟨us, e, h⟩ => ⟨us, e, h.mono fun a b => A1.R_mono hρ hβ a b⟩
end

/-! ### What a run leaves of old memory -/
def objKeep (S : Nat → Prop) : Obj → Obj → Prop
  | .cells c e f, o' => ∃ c', o' = .cells c' e f ∧ c'.size = c.size ∧ ∀ i : Nat, ¬ S i → c'[i]? = c[i]?
  | o, o' => o' = o

theorem objKeep.refl (S : Nat → Prop) (o : Obj) : objKeep S o o := by
  cases o <;> simp [objKeep]
theorem objKeep.trans {S : Nat → Prop} {a b c : Obj} (h : objKeep S a b) (k : objKeep S b c) : objKeep S a c := by
  cases a with
  | cells x e f =>
    obtain ⟨y, rfl, h1, h2⟩ := h
    obtain ⟨z, rfl, k1, k2⟩ := k
    exact ⟨z, rfl, k1.trans h1, fun i hi => (k2 i hi).trans (h2 i hi)⟩
  | _ => (cases h; exact k)
theorem objKeep.mono {S S' : Nat → Prop} (hs : ∀ i, S i → S' i) {a b : Obj} (h : objKeep S a b) : objKeep S' a b := by
  cases a with
  | cells x e f =>
    obtain ⟨y, rfl, h1, h2⟩ := h
    exact ⟨y, rfl, h1, fun i hi => h2 i (fun k => hi (hs i k))⟩
  | _ => exact h

structure Keep (S : Nat → Nat → Prop) (w w' : World) : Prop where
  os : w'.os = w.os
  tape : w'.tape = w.tape
  output : w'.output = w.output
  size : w.heap.size ≤ w'.heap.size
  obj : ∀ (k : Nat) o, w.heap[k]? = some o → ∃ o', w'.heap[k]? = some o' ∧ objKeep (S k) o o'

theorem Keep.refl (S : Nat → Nat → Prop) (w : World) : Keep S w w := ⟨rfl, rfl, rfl, Nat.le_refl _, fun _ o h => ⟨o, h, objKeep.refl _ _⟩⟩
theorem Keep.trans {S : Nat → Nat → Prop} {a b c : World} (h : Keep S a b) (k : Keep S b c) : Keep S a c :=
  ⟨k.os.trans h.os, k.tape.trans h.tape, k.output.trans h.output, Nat.le_trans h.size k.size, fun i o e => by
    obtain ⟨o', e', h'⟩ := h.obj i o e
    obtain ⟨o'', e'', h''⟩ := k.obj i o' e'
    exact ⟨o'', e'', h'.trans h''⟩⟩
/-- Only what was there before counts. -/
theorem Keep.mono {S S' : Nat → Nat → Prop} {a b : World} (h : Keep S a b) (hs : ∀ k i, k < a.heap.size → S k i → S' k i) : Keep S' a b :=
  ⟨h.os, h.tape, h.output, h.size, fun k o e => by
    obtain ⟨o', e', h'⟩ := h.obj k o e
    exact ⟨o', e', h'.mono fun i => hs k i (Array.getElem?_eq_some_iff.1 e).1⟩⟩
theorem Keep.drawn {S : Nat → Nat → Prop} {a b : World} (h : Keep S a b) (n : Nat) : Keep S a { b with drawn := n } := ⟨h.os, h.tape, h.output, h.size, h.obj⟩
theorem Keep.push {S : Nat → Nat → Prop} {a b : World} (h : Keep S a b) (x : Obj) : Keep S a { b with heap := b.heap.push x } :=
  ⟨h.os, h.tape, h.output, Nat.le_trans h.size (by simp), fun k o e => by
    obtain ⟨o', e', h'⟩ := h.obj k o e
    refine ⟨o', ?_, h'⟩
    have := (Array.getElem?_eq_some_iff.1 e').1
    simp only [Array.getElem?_push]
    rw [if_neg (by omega)]
    exact e'⟩
theorem Keep.setCell {S : Nat → Nat → Prop} {a b : World} (h : Keep S a b) (p : Addr) (v : Value) (hp : p.block < a.heap.size → S p.block p.off) : Keep S a (b.setCell p v) := by
  refine ⟨h.os, h.tape, h.output, Nat.le_trans h.size (by simp [World.setCell]), fun k o e => ?_⟩
  obtain ⟨o', e', h'⟩ := h.obj k o e
  have hk := (Array.getElem?_eq_some_iff.1 e).1
  simp only [World.setCell, Array.getElem?_modify]
  by_cases hpk : p.block = k
  · subst hpk
    simp only [if_true, e', Option.map_some]
    cases o with
    | cells c t f =>
      obtain ⟨c', rfl, h1, h2⟩ := h'
      refine ⟨_, rfl, ?_⟩
      refine ⟨_, rfl, ?_, fun i hi => ?_⟩
      · split <;> simp [h1]
      · split
        · exact h2 i hi
        · rw [Array.getElem?_setIfInBounds_ne (fun (e : p.off = i) => hi (e ▸ hp hk))]
          exact h2 i hi
    | _ => (cases h'; exact ⟨_, rfl, rfl⟩)
  · simp only [hpk, if_false]
    exact ⟨o', e', h'⟩
theorem Keep.cell {S : Nat → Nat → Prop} {a b : World} (h : Keep S a b) {k i : Nat} (hk : k < a.heap.size) (hi : ¬ S k i) : b.cell? ⟨k, i, none⟩ = a.cell? ⟨k, i, none⟩ := by
  obtain ⟨o', e', h'⟩ := h.obj k _ (Array.getElem?_eq_getElem hk)
  unfold World.cell?
  simp only [e', Array.getElem?_eq_getElem hk]
  generalize a.heap[k] = o at *
  cases o with
  | cells c t f => obtain ⟨c', rfl, _, h2⟩ := h'; simpa using h2 i hi
  | _ => (cases h'; rfl)
theorem Keep.frozen {S : Nat → Nat → Prop} {a b : World} (h : Keep S a b) {k i : Nat} (hk : k < a.heap.size) : b.frozen? ⟨k, i, none⟩ = a.frozen? ⟨k, i, none⟩ := by
  obtain ⟨o', e', h'⟩ := h.obj k _ (Array.getElem?_eq_getElem hk)
  unfold World.frozen?
  simp only [e', Array.getElem?_eq_getElem hk]
  generalize a.heap[k] = o at *
  cases o with
  | cells c t f => obtain ⟨c', rfl, _, h2⟩ := h'; rfl
  | _ => (cases h'; rfl)
theorem Keep.below {S : Nat → Nat → Prop} {a b : World} (h : Keep S a b) (hs : ∀ k i, k < a.heap.size → ¬ S k i) : RowKit.Below a.heap.size a b :=
  ⟨h.os, h.tape, h.output, h.size, fun k hk => by
    obtain ⟨o', e', h'⟩ := h.obj k _ (Array.getElem?_eq_getElem hk)
    rw [e', Array.getElem?_eq_getElem hk]
    generalize a.heap[k] = o at *
    cases o with
    | cells c t f =>
      obtain ⟨c', rfl, _, h2⟩ := h'
      have : c' = c := Array.ext_getElem? fun i => h2 i (hs k i hk)
      rw [this]
    | _ => (cases h'; rfl)⟩
end Go.Sx

/- The relation between an abstract state and a frame and a world; stores and new blocks. -/
namespace Go.Sx
open Go

/-- Where old memory may be written; how many regions there were at the start. -/
structure Old where
  S : Nat → Nat → Prop
  n0 : Nat

structure Mem (S0 : Old) (ρ : Env) (β : Base) (hp : List Reg) (w0 w : World) : Prop where
  len : hp.length = β.length
  cell : ∀ (r : Nat) (g : Reg) (x : Nat × Nat), hp[r]? = some g → β[r]? = some x → ∀ (i : Nat) (c : Sc), g.cs[i]? = some c → ∃ v, w.cell? ⟨x.1, x.2 + i, none⟩ = some v ∧ c.R ρ β v
  free : ∀ (r : Nat) (g : Reg) (x : Nat × Nat), hp[r]? = some g → β[r]? = some x → g.rw = true → ∀ i, i < g.cs.length → w.frozen? ⟨x.1, x.2 + i, none⟩ = false
  disj : ∀ (r r' : Nat) (g g' : Reg) (x x' : Nat × Nat), hp[r]? = some g → hp[r']? = some g' → β[r]? = some x → β[r']? = some x' → r ≠ r' → (g.rw = true ∨ g'.rw = true) → ∀ i j, i < g.cs.length → j < g'.cs.length → ¬ (x.1 = x'.1 ∧ x.2 + i = x'.2 + j)
  wr : ∀ (r : Nat) (g : Reg) (x : Nat × Nat), hp[r]? = some g → β[r]? = some x → g.rw = true → x.1 < w0.heap.size → ∀ i, i < g.cs.length → S0.S x.1 (x.2 + i)
  keep : Keep S0.S w0 w
  new : ∀ (r : Nat) (g : Reg) (x : Nat × Nat), hp[r]? = some g → β[r]? = some x → S0.n0 ≤ r → g.rw = true → w0.heap.size ≤ x.1
  iter : ∀ (r : Nat) (g : Reg) (x : Nat × Nat) s p, hp[r]? = some g → β[r]? = some x → g.it = some (s, p) → w.heap[x.1]? = some (.stringIter s p) ∧ w0.heap.size ≤ x.1 ∧ x.2 = 0
  itd : ∀ (r r' : Nat) (g g' : Reg) (x x' : Nat × Nat), hp[r]? = some g → hp[r']? = some g' → β[r]? = some x → β[r']? = some x' → g.it.isSome = true → g'.it.isSome = true → r ≠ r' → x.1 ≠ x'.1
  bulk : ∀ (r : Nat) (g : Reg) (x : Nat × Nat) (i : Nat), hp[r]? = some g → β[r]? = some x → g.bulk = some i → ∃ n : Nat, ρ[i]? = some (n : Int) ∧ ∀ j, j < n → (∃ v, w0.cell? ⟨x.1, x.2 + j, none⟩ = some v ∧ v.oneCell' = true) ∧ ¬ S0.S x.1 (x.2 + j)

section
variable {S0 : Old} {ρ ρ' : Env} {β : Base} {hp : List Reg} {w0 w : World}

theorem Mem.mono (h : Mem S0 ρ β hp w0 w) (hρ : Ext ρ ρ') : Mem S0 ρ' β hp w0 w := by
  refine ⟨h.len, fun r g x hr hx i c hc => ?_, h.free, h.disj, h.wr, h.keep, h.new, h.iter, h.itd, fun r g x i hr hx hb => (h.bulk r g x i hr hx hb).imp fun n k => ⟨hρ.get k.1, k.2⟩⟩
  obtain ⟨v, hv, hR⟩ := h.cell r g x hr hx i c hc
  exact ⟨v, hv, Sc.R_mono hρ (Ext.refl _) c v hR⟩

theorem cell?_drawn (w : World) (n : Nat) (a : Addr) : ({ w with drawn := n } : World).cell? a = w.cell? a := rfl
theorem frozen?_drawn (w : World) (n : Nat) (a : Addr) : ({ w with drawn := n } : World).frozen? a = w.frozen? a := rfl

theorem cell?_push {w : World} {b i : Nat} {v : Value} (h : w.cell? ⟨b, i, none⟩ = some v) (x : Obj) : ({ w with heap := w.heap.push x } : World).cell? ⟨b, i, none⟩ = some v := by
  have hlt : b < w.heap.size := World.block_lt_of_cell? (w := w) (a := ⟨b, i, none⟩) h
  unfold World.cell? at *
  simp only [Array.getElem?_push]
  rw [if_neg (by omega)]
  exact h

theorem Mem.drawn (h : Mem S0 ρ β hp w0 w) (n : Nat) : Mem S0 ρ β hp w0 { w with drawn := n } :=
  ⟨h.len, h.cell, h.free, h.disj, h.wr, h.keep.drawn n, h.new, h.iter, h.itd, h.bulk⟩

theorem set_bulk {hp : List Reg} {r : Nat} {g g1 : Reg} {r' : Nat} {g' : Reg} (hr : hp[r]? = some g) (e : (hp.set r g1)[r']? = some g') (hb : g1.bulk = g.bulk) : ∃ g0, hp[r']? = some g0 ∧ g'.bulk = g0.bulk := by
  by_cases hrr : r = r'
  · subst hrr
    have hlt : r < hp.length := by
      rcases Nat.lt_or_ge r hp.length with h' | h'
      · exact h'
      · simp [List.getElem?_eq_none h'] at hr
    simp [hlt] at e
    subst e
    exact ⟨g, hr, hb⟩
  · rw [List.getElem?_set_ne hrr] at e
    exact ⟨g', e, rfl⟩

theorem Mem.setCell (h : Mem S0 ρ β hp w0 w) {r i : Nat} {g : Reg} {x : Nat × Nat} {c : Sc} {v : Value} (hr : hp[r]? = some g) (hx : β[r]? = some x) (hw : g.rw = true)
    (hi : i < g.cs.length) (hR : c.R ρ β v) : Mem S0 ρ β (hp.set r { g with cs := g.cs.set i c }) w0 (w.setCell ⟨x.1, x.2 + i, none⟩ v) := by
  have hlt : r < hp.length := by
    rcases Nat.lt_or_ge r hp.length with h' | h'
    · exact h'
    · simp [List.getElem?_eq_none h'] at hr
  have look : ∀ (r' : Nat) (g' : Reg), (hp.set r { g with cs := g.cs.set i c })[r']? = some g' → ∃ g0, hp[r']? = some g0 ∧ g'.cs.length = g0.cs.length ∧ (g'.rw = g0.rw ∧ g'.it = g0.it) ∧ (r' ≠ r → g' = g0) ∧ (r' = r → g' = { g with cs := g.cs.set i c }) := by
    intro r' g' e
    by_cases hrr : r = r'
    · subst hrr
      simp [hlt] at e
      subst e
      exact ⟨g, hr, by simp, ⟨rfl, rfl⟩, fun k => (k rfl).elim, fun _ => rfl⟩
    · rw [List.getElem?_set_ne hrr] at e
      exact ⟨g', e, rfl, ⟨rfl, rfl⟩, fun _ => rfl, fun k => (hrr k.symm).elim⟩
  refine ⟨by simp [h.len], ?_, ?_, ?_, ?_, ?_, fun r' g' x' e ex hn hw => by
    obtain ⟨g0, e0, _, w0', _, _⟩ := look r' g' e
    exact h.new r' g0 x' e0 ex hn (w0'.1 ▸ hw), ?_, ?_, fun r' g' x' i e ex hb => by
    obtain ⟨g0, e0, hg0⟩ := set_bulk hr e rfl
    exact h.bulk r' g0 x' i e0 ex (hg0 ▸ hb)⟩
  · intro r' g' x' e ex j d ed
    obtain ⟨g0, e0, l0, w0', hne, heq⟩ := look r' g' e
    by_cases hrr : r' = r
    · subst hrr
      obtain rfl := heq rfl
      obtain rfl : x' = x := by rw [hx] at ex; exact (Option.some.inj ex).symm
      obtain rfl : g0 = g := by rw [hr] at e0; exact (Option.some.inj e0).symm
      by_cases hij : i = j
      · subst hij
        simp [hi] at ed
        subst ed
        obtain ⟨u, hu, _⟩ := h.cell r' g0 x' hr hx i _ (List.getElem?_eq_getElem hi)
        exact ⟨v, World.cell?_setCell_same _ _ _ hu, hR⟩
      · simp only at ed
        rw [List.getElem?_set_ne hij] at ed
        obtain ⟨u, hu, hRu⟩ := h.cell r' g0 x' hr hx j d ed
        exact ⟨u, by rw [World.cell?_setCell_other _ _ _ _ (by simp [hij])]; exact hu, hRu⟩
    · obtain rfl := hne hrr
      obtain ⟨u, hu, hRu⟩ := h.cell r' g' x' e0 ex j d ed
      have hj : j < g'.cs.length := (List.getElem?_eq_some_iff.1 ed).1
      refine ⟨u, ?_, hRu⟩
      rw [World.cell?_setCell_other _ _ _ _ ?_]
      · exact hu
      · intro k
        simp at k
        exact h.disj r r' g g' x x' hr e0 hx ex (fun e => hrr e.symm) (.inl hw) i j hi hj k
  · intro r' g' x' e ex hw' j hj
    obtain ⟨g0, e0, l0, w0', _, _⟩ := look r' g' e
    rw [World.frozen?_setCell]
    exact h.free r' g0 x' e0 ex (w0'.1 ▸ hw') j (l0 ▸ hj)
  · intro r1 r2 g1 g2 x1 x2 e1 e2 ex1 ex2 hne hor j k hj hk
    obtain ⟨h1, f1, l1, q1, _, _⟩ := look r1 g1 e1
    obtain ⟨h2, f2, l2, q2, _, _⟩ := look r2 g2 e2
    exact h.disj r1 r2 h1 h2 x1 x2 f1 f2 ex1 ex2 hne (by rw [← q1.1, ← q2.1]; exact hor) j k (l1 ▸ hj) (l2 ▸ hk)
  · intro r' g' x' e ex hw' hb j hj
    obtain ⟨g0, e0, l0, w0', _, _⟩ := look r' g' e
    exact h.wr r' g0 x' e0 ex (w0'.1 ▸ hw') hb j (l0 ▸ hj)
  · exact h.keep.setCell _ _ fun hb => h.wr r g x hr hx hw hb i hi
  · intro r' g' x' s p e ex hit
    obtain ⟨g0, e0, _, w0', _, _⟩ := look r' g' e
    have := h.iter r' g0 x' s p e0 ex (w0'.2 ▸ hit)
    refine ⟨?_, this.2⟩
    simp only [World.setCell, Array.getElem?_modify]
    split
    · rw [this.1]; rfl
    · exact this.1
  · intro r1 r2 g1 g2 x1 x2 e1 e2 ex1 ex2 hi1 hi2 hne
    obtain ⟨h1, f1, _, w1', _, _⟩ := look r1 g1 e1
    obtain ⟨h2, f2, _, w2', _, _⟩ := look r2 g2 e2
    exact h.itd r1 r2 h1 h2 x1 x2 f1 f2 ex1 ex2 (w1'.2 ▸ hi1) (w2'.2 ▸ hi2) hne

/-- overwrite a list from place i on -/
def over {α : Type} : List α → Nat → List α → List α
  | l, _, [] => l
  | l, i, x :: xs => over (l.set i x) (i + 1) xs
theorem over_length {α : Type} : ∀ (xs : List α) (l : List α) (i : Nat), (over l i xs).length = l.length
  | [], _, _ => rfl
  | x :: xs, l, i => by simp [over, over_length xs]

theorem set_set_reg (hp : List Reg) (r : Nat) (a b : Reg) : (hp.set r a).set r b = hp.set r b := by simp

theorem set_same {α : Type} : ∀ (l : List α) (r : Nat) (g : α), l[r]? = some g → l.set r g = l
  | [], _, _, h => by simp at h
  | a :: l, 0, g, h => by simp at h; simp [h]
  | a :: l, r + 1, g, h => by simp at h; simp [set_same l r g h]

theorem Mem.setCells {r : Nat} {x : Nat × Nat} (hx : β[r]? = some x) : ∀ (cs : List Sc) (vs : List Value) (hp : List Reg) (g : Reg) (w : World) (i : Nat), Mem S0 ρ β hp w0 w → hp[r]? = some g → g.rw = true →
    i + cs.length ≤ g.cs.length → All2 (Sc.R ρ β) cs vs → Mem S0 ρ β (hp.set r { g with cs := over g.cs i cs }) w0 (w.setCells x.1 (x.2 + i) vs)
  | [], [], hp, g, w, i, h, hr, _, _, _ => by
    have : hp.set r { g with cs := over g.cs i [] } = hp := set_same hp r _ hr
    rw [this]; exact h
  | c :: cs, v :: vs, hp, g, w, i, h, hr, hw, hl, hR => by
    simp only [List.length_cons] at hl
    have h1 := h.setCell hr hx hw (show i < g.cs.length by omega) hR.1
    have hlt : r < hp.length := by
      rcases Nat.lt_or_ge r hp.length with h' | h'
      · exact h'
      · simp [List.getElem?_eq_none h'] at hr
    have h2 := Mem.setCells hx cs vs _ { g with cs := g.cs.set i c } _ (i + 1) h1 (by simp [hlt]) hw (by simp; omega) hR.2
    rw [set_set_reg] at h2
    simp only [over, World.setCells]
    rw [show x.2 + (i + 1) = x.2 + i + 1 by omega] at h2
    exact h2

theorem Mem.pushG (h : Mem S0 ρ β hp w0 w) (g0 : Reg) (x0 : Obj)
    (hcell : ∀ (i : Nat) (c : Sc), g0.cs[i]? = some c → ∃ v, ({ w with heap := w.heap.push x0 } : World).cell? ⟨w.heap.size, i, none⟩ = some v ∧ c.R ρ (β ++ [(w.heap.size, 0)]) v)
    (hfree : ∀ i, i < g0.cs.length → ({ w with heap := w.heap.push x0 } : World).frozen? ⟨w.heap.size, i, none⟩ = false)
    (hit0 : ∀ s p, g0.it = some (s, p) → x0 = .stringIter s p) (hbk0 : g0.bulk = none) :
    Mem S0 ρ (β ++ [(w.heap.size, 0)]) (hp ++ [g0]) w0 { w with heap := w.heap.push x0 } := by
  have oldb : ∀ (r : Nat) (g : Reg) (x : Nat × Nat), hp[r]? = some g → β[r]? = some x → ∀ i, i < g.cs.length → x.1 < w.heap.size := fun r g x e ex i hi => by
    obtain ⟨v, hv, _⟩ := h.cell r g x e ex i _ (List.getElem?_eq_getElem hi)
    exact World.block_lt_of_cell? (w := w) (a := ⟨x.1, x.2 + i, none⟩) hv
  have look : ∀ (r : Nat) (g : Reg) (x : Nat × Nat), (hp ++ [g0])[r]? = some g → (β ++ [(w.heap.size, 0)])[r]? = some x → (hp[r]? = some g ∧ β[r]? = some x) ∨ (r = hp.length ∧ g = g0 ∧ x = (w.heap.size, 0)) := by
    intro r g x e ex
    rcases Nat.lt_trichotomy r hp.length with hlt | heq | hgt
    · rw [List.getElem?_append_left hlt] at e
      rw [List.getElem?_append_left (by rw [← h.len]; exact hlt)] at ex
      exact .inl ⟨e, ex⟩
    · subst heq
      rw [List.getElem?_append_right (Nat.le_refl _)] at e
      rw [List.getElem?_append_right (by rw [h.len]; exact Nat.le_refl _)] at ex
      simp [h.len] at e ex
      exact .inr ⟨rfl, e.symm, ex.symm⟩
    · rw [List.getElem?_eq_none (by simp; omega)] at e
      cases e
  refine ⟨by simp [h.len], ?_, ?_, ?_, ?_, h.keep.push _, fun r g x e ex hn hw => ?_, fun r g x s p e ex hit => ?_, ?_, fun r g x i e ex hb => by
    rcases look r g x e ex with ⟨e', ex'⟩ | ⟨_, rfl, rfl⟩
    · exact h.bulk r g x i e' ex' hb
    · rw [hbk0] at hb; cases hb⟩
  · intro r g x e ex i c hc
    rcases look r g x e ex with ⟨e', ex'⟩ | ⟨_, rfl, rfl⟩
    · obtain ⟨v, hv, hRv⟩ := h.cell r g x e' ex' i c hc
      exact ⟨v, cell?_push hv _, Sc.R_mono (Ext.refl _) (Ext.app _ _) c v hRv⟩
    · simpa using hcell i c hc
  · intro r g x e ex hw i hi
    rcases look r g x e ex with ⟨e', ex'⟩ | ⟨_, rfl, rfl⟩
    · have hlt := oldb r g x e' ex' i hi
      have := World.frozen?_alloc_old (w := w) (a := ⟨x.1, x.2 + i, none⟩) (o := x0) (by simp; omega)
      exact this.trans (h.free r g x e' ex' hw i hi)
    · simpa using hfree i hi
  · intro r1 r2 g1 g2 x1 x2 e1 e2 ex1 ex2 hne hor i j hi hj
    rcases look r1 g1 x1 e1 ex1 with ⟨a1, b1⟩ | ⟨n1, rfl, rfl⟩ <;> rcases look r2 g2 x2 e2 ex2 with ⟨a2, b2⟩ | ⟨n2, rfl, rfl⟩
    · exact h.disj r1 r2 g1 g2 x1 x2 a1 a2 b1 b2 hne hor i j hi hj
    · have := oldb r1 g1 x1 a1 b1 i hi
      simp; omega
    · have := oldb r2 g2 x2 a2 b2 j hj
      simp; omega
    · omega
  · intro r g x e ex hw hb i hi
    rcases look r g x e ex with ⟨e', ex'⟩ | ⟨_, rfl, rfl⟩
    · exact h.wr r g x e' ex' hw hb i hi
    · have := h.keep.size
      simp at hb; omega
  · rcases look r g x e ex with ⟨e', ex'⟩ | ⟨_, rfl, rfl⟩
    · exact h.new r g x e' ex' hn hw
    · exact h.keep.size
  · rcases look r g x e ex with ⟨e', ex'⟩ | ⟨_, rfl, rfl⟩
    · have := h.iter r g x s p e' ex' hit
      refine ⟨?_, this.2⟩
      have hlt := (Array.getElem?_eq_some_iff.1 this.1).1
      simp only [Array.getElem?_push]
      rw [if_neg (by omega)]
      exact this.1
    · obtain rfl := hit0 s p hit
      exact ⟨by simp, h.keep.size, rfl⟩
  · have itlt : ∀ (r : Nat) (g : Reg) (x : Nat × Nat), hp[r]? = some g → β[r]? = some x → g.it.isSome = true → x.1 < w.heap.size := fun r g x e ex hi => by
      obtain ⟨⟨s, p⟩, hsp⟩ := Option.isSome_iff_exists.1 hi
      exact (Array.getElem?_eq_some_iff.1 (h.iter r g x s p e ex hsp).1).1
    intro r1 r2 g1 g2 x1 x2 e1 e2 ex1 ex2 hi1 hi2 hne
    rcases look r1 g1 x1 e1 ex1 with ⟨a1, b1⟩ | ⟨n1, rfl, rfl⟩ <;> rcases look r2 g2 x2 e2 ex2 with ⟨a2, b2⟩ | ⟨n2, rfl, rfl⟩
    · exact h.itd r1 r2 g1 g2 x1 x2 a1 a2 b1 b2 hi1 hi2 hne
    · have := itlt r1 g1 x1 a1 b1 hi1
      simp; omega
    · have := itlt r2 g2 x2 a2 b2 hi2
      simp; omega
    · omega

/-- A new object of which nothing is kept. -/
theorem Mem.pushFree (h : Mem S0 ρ β hp w0 w) (x0 : Obj) : Mem S0 ρ β hp w0 { w with heap := w.heap.push x0 } := by
  have oldb : ∀ (r : Nat) (g : Reg) (x : Nat × Nat), hp[r]? = some g → β[r]? = some x → ∀ i, i < g.cs.length → x.1 < w.heap.size := fun r g x e ex i hi => by
    obtain ⟨v, hv, _⟩ := h.cell r g x e ex i _ (List.getElem?_eq_getElem hi)
    exact World.block_lt_of_cell? (w := w) (a := ⟨x.1, x.2 + i, none⟩) hv
  refine ⟨h.len, ?_, ?_, h.disj, h.wr, h.keep.push _, h.new, ?_, h.itd, h.bulk⟩
  · intro r g x e ex i c hc
    obtain ⟨v, hv, hR⟩ := h.cell r g x e ex i c hc
    exact ⟨v, cell?_push hv _, hR⟩
  · intro r g x e ex hw i hi
    have hlt := oldb r g x e ex i hi
    have := World.frozen?_alloc_old (w := w) (a := ⟨x.1, x.2 + i, none⟩) (o := x0) (by simp; omega)
    exact this.trans (h.free r g x e ex hw i hi)
  · intro r g x s p e ex hit
    have := h.iter r g x s p e ex hit
    refine ⟨?_, this.2⟩
    have hlt := (Array.getElem?_eq_some_iff.1 this.1).1
    simp only [Array.getElem?_push]
    rw [if_neg (by omega)]
    exact this.1

/-- A new row: what is known of its first cells. -/
theorem Mem.pushMore (h : Mem S0 ρ β hp w0 w) {cs : List Sc} {vs : List Value} (more : Array Value) (ty : TypeId) (hR : All2 (Sc.R ρ (β ++ [(w.heap.size, 0)])) cs vs) :
    Mem S0 ρ (β ++ [(w.heap.size, 0)]) (hp ++ [{ cs := cs, rw := true }]) w0 { w with heap := w.heap.push (.cells (vs.toArray ++ more) ty) } := by
  refine h.pushG _ _ (fun i c hc => ?_) (fun i hi => ?_) (fun s p e => by cases e) rfl
  · obtain ⟨v, hv, hRv⟩ := hR.get hc
    have hlt : i < vs.length := (List.getElem?_eq_some_iff.1 hv).1
    refine ⟨v, ?_, hRv⟩
    simp [World.cell?]
    rw [Array.getElem?_append_left (by simpa using hlt)]
    simpa using hv
  · simp [World.frozen?]

theorem Mem.push (h : Mem S0 ρ β hp w0 w) {cs : List Sc} {vs : List Value} (ty : TypeId) (hR : All2 (Sc.R ρ (β ++ [(w.heap.size, 0)])) cs vs) :
    Mem S0 ρ (β ++ [(w.heap.size, 0)]) (hp ++ [{ cs := cs, rw := true }]) w0 { w with heap := w.heap.push (.cells vs.toArray ty) } := by
  have := h.pushMore #[] ty hR
  simpa using this

/-- A step of an iterator. -/
theorem Mem.step (h : Mem S0 ρ β hp w0 w) {r : Nat} {g : Reg} {x : Nat × Nat} {s s' : ByteArray} {p p' : Nat} (hr : hp[r]? = some g) (hx : β[r]? = some x) (hg : g.it = some (s, p)) :
    Mem S0 ρ β (hp.set r { g with it := some (s', p') }) w0 { w with heap := w.heap.setIfInBounds x.1 (.stringIter s' p') } := by
  have hlt : r < hp.length := by
    rcases Nat.lt_or_ge r hp.length with h' | h'
    · exact h'
    · simp [List.getElem?_eq_none h'] at hr
  obtain ⟨hobj, hnew⟩ := h.iter r g x s p hr hx hg
  have look : ∀ (r' : Nat) (g' : Reg), (hp.set r { g with it := some (s', p') })[r']? = some g' → ∃ g0, hp[r']? = some g0 ∧ g'.cs = g0.cs ∧ g'.rw = g0.rw ∧ (r' ≠ r → g' = g0) ∧ (r' = r → g' = { g with it := some (s', p') }) := by
    intro r' g' e
    by_cases hrr : r = r'
    · subst hrr
      simp [hlt] at e
      subst e
      exact ⟨g, hr, rfl, rfl, fun k => (k rfl).elim, fun _ => rfl⟩
    · rw [List.getElem?_set_ne hrr] at e
      exact ⟨g', e, rfl, rfl, fun _ => rfl, fun k => (hrr k.symm).elim⟩
  have hcell : ∀ (b i : Nat) v, w.cell? ⟨b, i, none⟩ = some v → b ≠ x.1 := fun b i v hv hb => by
    subst hb
    simp [World.cell?, hobj] at hv
  have hcell' : ∀ (b i : Nat), b ≠ x.1 → ({ w with heap := w.heap.setIfInBounds x.1 (.stringIter s' p') } : World).cell? ⟨b, i, none⟩ = w.cell? ⟨b, i, none⟩ := fun b i hb => by
    simp only [World.cell?, Array.getElem?_setIfInBounds_ne (fun e => hb e.symm)]
  have hfro' : ∀ (b i : Nat), b ≠ x.1 → ({ w with heap := w.heap.setIfInBounds x.1 (.stringIter s' p') } : World).frozen? ⟨b, i, none⟩ = w.frozen? ⟨b, i, none⟩ := fun b i hb => by
    simp only [World.frozen?, Array.getElem?_setIfInBounds_ne (fun e => hb e.symm)]
  refine ⟨by simp [h.len], ?_, ?_, ?_, ?_, ?_, fun r' g' x' e ex hn hw => by
    obtain ⟨g0, e0, _, hrw, _⟩ := look r' g' e
    exact h.new r' g0 x' e0 ex hn (hrw ▸ hw), ?_, ?_, fun r' g' x' i e ex hb => by
    obtain ⟨g0, e0, hg0⟩ := set_bulk hr e rfl
    exact h.bulk r' g0 x' i e0 ex (hg0 ▸ hb)⟩
  · intro r' g' y e ey i c hc
    obtain ⟨g0, e0, hcs, _⟩ := look r' g' e
    obtain ⟨v, hv, hR⟩ := h.cell r' g0 y e0 ey i c (hcs ▸ hc)
    exact ⟨v, by rw [hcell' _ _ (hcell _ _ v hv)]; exact hv, hR⟩
  · intro r' g' y e ey hw i hi
    obtain ⟨g0, e0, hcs, hrw, _⟩ := look r' g' e
    obtain ⟨v, hv, _⟩ := h.cell r' g0 y e0 ey i _ (List.getElem?_eq_getElem (hcs ▸ hi))
    rw [hfro' _ _ (hcell _ _ v hv)]
    exact h.free r' g0 y e0 ey (hrw ▸ hw) i (hcs ▸ hi)
  · intro r1 r2 g1 g2 x1 x2 e1 e2 ex1 ex2 hne hor j k hj hk
    obtain ⟨h1, f1, l1, q1, _⟩ := look r1 g1 e1
    obtain ⟨h2, f2, l2, q2, _⟩ := look r2 g2 e2
    exact h.disj r1 r2 h1 h2 x1 x2 f1 f2 ex1 ex2 hne (by rw [← q1, ← q2]; exact hor) j k (l1 ▸ hj) (l2 ▸ hk)
  · intro r' g' y e ey hw hb j hj
    obtain ⟨g0, e0, hcs, hrw, _⟩ := look r' g' e
    exact h.wr r' g0 y e0 ey (hrw ▸ hw) hb j (hcs ▸ hj)
  · refine ⟨h.keep.os, h.keep.tape, h.keep.output, by simpa using h.keep.size, fun k o e => ?_⟩
    obtain ⟨o', e', h'⟩ := h.keep.obj k o e
    have hk := (Array.getElem?_eq_some_iff.1 e).1
    have hn1 := hnew.1
    exact ⟨o', by simp only [Array.getElem?_setIfInBounds_ne (show x.1 ≠ k by omega)]; exact e', h'⟩
  · intro r' g' y t q e ey hit
    obtain ⟨g0, e0, _, _, hne, heq⟩ := look r' g' e
    by_cases hrr : r' = r
    · subst hrr
      obtain rfl := heq rfl
      obtain rfl : y = x := by rw [hx] at ey; exact (Option.some.inj ey).symm
      simp at hit
      obtain ⟨rfl, rfl⟩ := hit
      have := (Array.getElem?_eq_some_iff.1 hobj).1
      exact ⟨by simp [this], hnew⟩
    · obtain rfl := hne hrr
      have hi := h.iter r' g' y t q e0 ey hit
      have hd := h.itd r' r g' g y x e0 hr ey hx (by rw [hit]; rfl) (by rw [hg]; rfl) hrr
      exact ⟨by simp only [Array.getElem?_setIfInBounds_ne (fun e => hd e.symm)]; exact hi.1, hi.2⟩
  · intro r1 r2 g1 g2 x1 x2 e1 e2 ex1 ex2 hi1 hi2 hne
    have fix : ∀ (r' : Nat) (g' : Reg), (hp.set r { g with it := some (s', p') })[r']? = some g' → g'.it.isSome = true → ∃ g0, hp[r']? = some g0 ∧ g0.it.isSome = true := fun r' g' e hi => by
      obtain ⟨g0, e0, _, _, hne, heq⟩ := look r' g' e
      by_cases hrr : r' = r
      · subst hrr
        obtain rfl : g0 = g := by rw [hr] at e0; exact (Option.some.inj e0).symm
        exact ⟨g0, e0, by rw [hg]; rfl⟩
      · exact ⟨g0, e0, by rw [← hne hrr]; exact hi⟩
    obtain ⟨k1, f1, i1⟩ := fix r1 g1 e1 hi1
    obtain ⟨k2, f2, i2⟩ := fix r2 g2 e2 hi2
    exact h.itd r1 r2 k1 k2 x1 x2 f1 f2 ex1 ex2 i1 i2 hne
end

/-! ### The abstract state -/
structure St where
  fr : Tr AV
  nt : Nat
  hp : List Reg
  nv : Nat

structure Rel (S0 : Old) (ρ : Env) (β : Base) (w0 : World) (st : St) (a : Act) (w : World) : Prop where
  mem : Mem S0 ρ β st.hp w0 w
  nv : st.nv = ρ.length
  tm : a.tmps.size = st.nt
  fr : ∀ t v, st.fr.get t = some v → v.R ρ β (a.tmps.getD t undef)
  df : a.defers = []

/-- The frame part alone. -/
structure FrR (ρ : Env) (β : Base) (fr : Tr AV) (nt : Nat) (a : Act) : Prop where
  tm : a.tmps.size = nt
  fr : ∀ t v, fr.get t = some v → v.R ρ β (a.tmps.getD t undef)
  df : a.defers = []

theorem FrR.mono {ρ ρ' : Env} {β β' : Base} {fr : Tr AV} {nt : Nat} {a : Act} (h : FrR ρ β fr nt a) (hρ : Ext ρ ρ') (hβ : Ext β β') : FrR ρ' β' fr nt a :=
  ⟨h.tm, fun t v e => AV.R_mono hρ hβ _ _ (h.fr t v e), h.df⟩

def put {τ : Type} (bad : τ) (st : St) (d : Option Tmp) (v : AV) (k : St → τ) : τ :=
  match d with
  | none => k st
  | some d => match st with
    | ⟨fr, nt, hp, nv⟩ => match nt with
      | 0 => bad
      | m + 1 => if d < m + 1 then fr.setK (d + 1) d v fun fr => k ⟨fr, m + 1, hp, nv⟩ else bad

theorem FrR.put {ρ : Env} {β : Base} {fr fr' : Tr AV} {nt : Nat} {a : Act} (h : FrR ρ β fr nt a) {d : Nat} (hd : d < nt) {v : AV} {u : Value} (hR : v.R ρ β u)
    (hg : ∀ j, fr'.get j = if j = d then some v else fr.get j) : FrR ρ β fr' nt (a.put (some d) u) := by
  refine ⟨by simp [Act.put, h.tm], fun t x e => ?_, by simp [Act.put, h.df]⟩
  rw [hg] at e
  by_cases ht : t = d
  · subst ht
    simp at e
    subst e
    simp only [Act.put]
    rw [Array.getD_eq_getD_getElem?, Array.getElem?_setIfInBounds_self_of_lt (by rw [h.tm]; exact hd)]
    exact hR
  · simp [ht] at e
    have := h.fr t x e
    simp only [Act.put]
    rw [Array.getD_eq_getD_getElem?, Array.getElem?_setIfInBounds_ne (fun k => ht k.symm), ← Array.getD_eq_getD_getElem?]
    exact this
end Go.Sx

/- Integer operations of the model as functions on Int, and that their values fit. -/
namespace Go.Sx
open Go

theorem kmin_le (k : IntKind) : kmin k ≤ 0 := by cases k <;> decide
theorem le_kmax (k : IntKind) : 0 ≤ kmax k := by cases k <;> decide

theorem wrap_u8 (n : Int) : IntKind.u8.wrap n = n % 256 := by simp [IntKind.wrap, IntKind.bits, IntKind.signed]
theorem wrap_u16 (n : Int) : IntKind.u16.wrap n = n % 65536 := by simp [IntKind.wrap, IntKind.bits, IntKind.signed]
theorem wrap_u32 (n : Int) : IntKind.u32.wrap n = n % 4294967296 := by simp [IntKind.wrap, IntKind.bits, IntKind.signed]
theorem wrap_u64 (n : Int) : IntKind.u64.wrap n = n % 18446744073709551616 := by simp [IntKind.wrap, IntKind.bits, IntKind.signed]
theorem wrap_i8 (n : Int) : IntKind.i8.wrap n = if 128 ≤ n % 256 then n % 256 - 256 else n % 256 := by simp [IntKind.wrap, IntKind.bits, IntKind.signed]
theorem wrap_i16 (n : Int) : IntKind.i16.wrap n = if 32768 ≤ n % 65536 then n % 65536 - 65536 else n % 65536 := by simp [IntKind.wrap, IntKind.bits, IntKind.signed]
theorem wrap_i32 (n : Int) : IntKind.i32.wrap n = if 2147483648 ≤ n % 4294967296 then n % 4294967296 - 4294967296 else n % 4294967296 := by simp [IntKind.wrap, IntKind.bits, IntKind.signed]
theorem wrap_i64 (n : Int) : IntKind.i64.wrap n = if 9223372036854775808 ≤ n % 18446744073709551616 then n % 18446744073709551616 - 18446744073709551616 else n % 18446744073709551616 := by simp [IntKind.wrap, IntKind.bits, IntKind.signed]

theorem wrap_fits (k : IntKind) (n : Int) : Fits k (k.wrap n) := by
  unfold Fits
  cases k <;> simp only [kmin, kmax]
  · rw [wrap_i8]; split <;> omega
  · rw [wrap_i16]; split <;> omega
  · rw [wrap_i32]; split <;> omega
  · rw [wrap_i64]; split <;> omega
  · rw [wrap_u8]; omega
  · rw [wrap_u16]; omega
  · rw [wrap_u32]; omega
  · rw [wrap_u64]; omega

theorem wrap_of_fits {k : IntKind} {n : Int} (h : Fits k n) : k.wrap n = n := by
  unfold Fits at h
  cases k <;> simp only [kmin, kmax] at h
  · rw [wrap_i8]; split <;> omega
  · rw [wrap_i16]; split <;> omega
  · rw [wrap_i32]; split <;> omega
  · rw [wrap_i64]; split <;> omega
  · rw [wrap_u8]; omega
  · rw [wrap_u16]; omega
  · rw [wrap_u32]; omega
  · rw [wrap_u64]; omega

def binFn : BinOp → IntKind → Int → Int → Int
  | .add, k, x, y => k.wrap (x + y)
  | .sub, k, x, y => k.wrap (x - y)
  | .mul, k, x, y => k.wrap (x * y)
  | .and, k, x, y => k.wrap (BitVec.ofInt k.bits x &&& BitVec.ofInt k.bits y).toNat
  | .or, k, x, y => k.wrap (BitVec.ofInt k.bits x ||| BitVec.ofInt k.bits y).toNat
  | .xor, k, x, y => k.wrap (BitVec.ofInt k.bits x ^^^ BitVec.ofInt k.bits y).toNat
  | .andNot, k, x, y => k.wrap (BitVec.ofInt k.bits x &&& ~~~ BitVec.ofInt k.bits y).toNat
  | .quo, k, x, y => k.wrap (x.tdiv y)
  | .rem, _, x, y => x.tmod y
  | .shl, k, x, y => k.wrap (x * 2 ^ (min y.toNat k.bits))
  | .shr, k, x, y => x.fdiv (2 ^ (min y.toNat k.bits))
  | _, _, x, _ => x

def binOk : BinOp → Bool
  | .add | .sub | .mul | .and | .or | .xor | .andNot | .quo | .rem | .shl | .shr => true
  | _ => false
def isShift : BinOp → Bool
  | .shl | .shr => true
  | _ => false
def isDiv : BinOp → Bool
  | .quo | .rem => true
  | _ => false
def binPre (op : BinOp) (y : Int) : Prop := (isDiv op = true → y ≠ 0) ∧ (isShift op = true → 0 ≤ y)
def binPreB (op : BinOp) (y : Int) : Bool := (!isDiv op || y != 0) && (!isShift op || decide (0 ≤ y))
theorem binPreB_spec {op : BinOp} {y : Int} (h : binPreB op y = true) : binPre op y := by
  unfold binPreB at h
  unfold binPre
  cases h1 : isDiv op <;> cases h2 : isShift op <;> simp_all

def isCmp : BinOp → Bool
  | .eql | .neq | .lss | .leq | .gtr | .geq => true
  | _ => false
def cmpFn : BinOp → Int → Int → Bool
  | .eql, x, y => x == y
  | .neq, x, y => x != y
  | .lss, x, y => decide (x < y)
  | .leq, x, y => decide (x ≤ y)
  | .gtr, x, y => decide (x > y)
  | .geq, x, y => decide (x ≥ y)
  | _, _, _ => false

def unFn : UnOp → IntKind → Int → Int
  | .neg, k, n => k.wrap (0 - n)
  | .xor, k, n => k.wrap (BitVec.ofInt k.bits (if k.signed then -1 else k.max) ^^^ BitVec.ofInt k.bits n).toNat
  | _, _, n => n
def unOk : UnOp → Bool
  | .neg | .xor => true
  | _ => false

theorem unFn_fits {op : UnOp} {k : IntKind} {n : Int} (h : Fits k n) : Fits k (unFn op k n) := by
  cases op <;> first | exact wrap_fits _ _ | exact h

theorem tmod_fits {k : IntKind} {x y : Int} (h : Fits k x) : Fits k (x.tmod y) := by
  unfold Fits at *
  have h1 := kmin_le k
  have h2 := le_kmax k
  have h3 := Int.natAbs_tmod x y
  have h4 := Nat.mod_le x.natAbs y.natAbs
  rcases Int.le_total 0 x with hx | hx
  · have a := Int.tmod_nonneg y hx
    omega
  · have a : x.tmod y ≤ 0 := by
      have := Int.tmod_nonneg y (show 0 ≤ -x by omega)
      rw [Int.neg_tmod] at this
      omega
    omega

theorem fdiv_fits {k : IntKind} {x : Int} {n : Nat} (h : Fits k x) : Fits k (x.fdiv (2 ^ n)) := by
  unfold Fits at *
  have h1 := kmin_le k
  have h2 := le_kmax k
  have hp : (0 : Int) < 2 ^ n := Int.pow_pos (by decide)
  rw [Int.fdiv_eq_ediv_of_nonneg _ (Int.le_of_lt hp)]
  have hp1 : (1 : Int) ≤ 2 ^ n := hp
  constructor
  · have := Int.le_ediv_of_mul_le hp (a := kmin k) (b := x) (Int.le_trans (by
      have := Int.mul_le_mul_of_nonpos_left h1 hp1
      simpa using this) h.1)
    exact this
  · rcases Int.le_total 0 x with hx | hx
    · exact Int.le_trans (Int.ediv_le_self _ hx) h.2
    · have : x / 2 ^ n ≤ 0 := by
        have := Int.ediv_le_ediv hp hx
        simpa using this
      omega

theorem binFn_fits {op : BinOp} {k : IntKind} {x y : Int} (h : Fits k x) : Fits k (binFn op k x y) := by
  cases op <;> first | exact wrap_fits _ _ | exact h | exact tmod_fits h | exact fdiv_fits h
end Go.Sx

/- Operations that read: the executor's step and what the model does. -/
namespace Go.Sx
open Go

def Src.ev (ρ : Env) : Src → Int
  | .c n => n
  | .v i => ρ.getD i 0

structure RelSpec where
  pre : List Int → Prop
  post : List Int → List Int → Prop

def alln : Nat → (List Int → Prop) → Prop
  | 0, K => K []
  | n + 1, K => ∀ x, alln n fun l => K (x :: l)

theorem alln_spec : ∀ (n : Nat) (K : List Int → Prop), alln n K → ∀ l, l.length = n → K l
  | 0, K, h, [], _ => h
  | n + 1, K, h, x :: l, e => alln_spec n (fun l => K (x :: l)) (h x) l (by simpa using e)

/-- Whether something is owed for the second operand. -/
def binNeeds (op : BinOp) : Src → Bool
  | .c n => !binPreB op n
  | .v _ => isDiv op || isShift op
theorem binNeeds_spec {op : BinOp} {y : Src} {ρ : Env} (h : binNeeds op y = false) : binPre op (y.ev ρ) := by
  cases y with
  | c n => exact binPreB_spec (show binPreB op n = true by simpa [binNeeds] using h)
  | v i =>
    simp only [binNeeds, Bool.or_eq_false_iff] at h
    unfold binPre
    exact ⟨fun e => (by rw [h.1] at e; cases e), fun e => (by rw [h.2] at e; cases e)⟩

/-- What an instruction owes, and what is known of its results. -/
def Ins.vc (rels : Nat → RelSpec) (ρ : Env) : Ins → (List Int → Prop) → Prop
  | .bin op k x y, K => match binNeeds op y with
    | true => binPre op (y.ev ρ) ∧ ∀ r, r = binFn op k (x.ev ρ) (y.ev ρ) → K [r]
    | false => ∀ r, r = binFn op k (x.ev ρ) (y.ev ρ) → K [r]
  | .cmp op x y, K => ∀ r, r = (if cmpFn op (x.ev ρ) (y.ev ρ) = true then 1 else 0) → K [r]
  | .conv k x, K => ∀ r, r = k.wrap (x.ev ρ) → K [r]
  | .un op k x, K => ∀ r, r = unFn op k (x.ev ρ) → K [r]
  | .notb i, K => ∀ r, r = (if ρ.getD i 0 = 0 then 1 else 0) → K [r]
  | .add64 x y c, K => c.ev ρ ≤ 1 ∧ ∀ s o, s = (x.ev ρ + y.ev ρ + c.ev ρ) % 18446744073709551616 → o = (x.ev ρ + y.ev ρ + c.ev ρ) / 18446744073709551616 → K [s, o]
  | .sub64 x y c, K => c.ev ρ ≤ 1 ∧ ∀ s o, s = (x.ev ρ - y.ev ρ - c.ev ρ) % 18446744073709551616 → o = (if x.ev ρ < y.ev ρ + c.ev ρ then 1 else 0) → K [s, o]
  | .call id xs n, K => (rels id).pre (xs.map (Src.ev ρ)) ∧ alln n fun outs => (rels id).post (xs.map (Src.ev ρ)) outs → K outs

theorem Ins.vc_bin {rels : Nat → RelSpec} {ρ : Env} {op : BinOp} {k : IntKind} {x y : Src} {K : List Int → Prop} (h : (Ins.bin op k x y).vc rels ρ K) : binPre op (y.ev ρ) ∧ ∀ r, r = binFn op k (x.ev ρ) (y.ev ρ) → K [r] := by
  simp only [Ins.vc] at h
  split at h
  · exact h
  · rename_i hn; exact ⟨binNeeds_spec hn, h⟩

def Ins.outs : Ins → Nat
  | .add64 .. | .sub64 .. => 2
  | .call _ _ n => n
  | _ => 1

def srcK : Sc → Option (IntKind × Src)
  | .int k n => some (k, .c n)
  | .var k i => some (k, .v i)
  | _ => none

theorem getD_of {ρ : Env} {i : Nat} {n : Int} (h : ρ[i]? = some n) : ρ.getD i 0 = n := by simp [List.getD, h]

theorem srcK_spec {ρ : Env} {β : Base} {s : Sc} {k : IntKind} {x : Src} {v : Value} (h : srcK s = some (k, x)) (hR : s.R ρ β v) : v = .int k (x.ev ρ) ∧ Fits k (x.ev ρ) := by
  cases s <;> simp only [srcK, Option.some.injEq, Prod.mk.injEq] at h <;> first | (cases h; done) | skip
  case int k' n => obtain ⟨rfl, rfl⟩ := h; exact hR
  case var k' i =>
    obtain ⟨rfl, rfl⟩ := h
    obtain ⟨n, hn, rfl, hf⟩ := hR
    simp only [Src.ev, getD_of hn]
    exact ⟨trivial, hf⟩

def ofSc : Value → Sc
  | .bool b => .bool b
  | .int k n => if kmin k ≤ n ∧ n ≤ kmax k then .int k n else .und
  | .pointer none => .nilp
  | .slice none 0 0 => .nils
  | .string s => .str s
  | .nilIface => .nilIface
  | _ => .und

theorem ofSc_R (ρ : Env) (β : Base) (v : Value) : (ofSc v).R ρ β v := by
  unfold ofSc
  split <;> first | exact rfl | trivial | skip
  split
  · exact ⟨rfl, by assumption⟩
  · trivial

def ofV : Value → AV
  | .agg cs => .one (.g (cs.toList.map ofSc))
  | v => .one (.s (ofSc v))

theorem all2_ofSc (ρ : Env) (β : Base) : ∀ l : List Value, All2 (Sc.R ρ β) (l.map ofSc) l
  | [] => trivial
  | v :: l => ⟨ofSc_R ρ β v, all2_ofSc ρ β l⟩

theorem ofV_R (ρ : Env) (β : Base) (v : Value) : (ofV v).R ρ β v := by
  unfold ofV
  split
  · rename_i cs
    exact ⟨cs.toList, by simp, all2_ofSc ρ β _⟩
  · exact ofSc_R ρ β _

def evX (fr : Tr AV) : Operand → AV
  | .tmp t => match fr.get t with | some v => v | none => .one (.s .und)
  | .const v => ofV v
  | .func f => .one (.s (.func f))
  | .global _ => .one (.s .und)

theorem evX_R {ρ : Env} {β : Base} {fr : Tr AV} {nt : Nat} {a : Act} (h : FrR ρ β fr nt a) (x : Operand) : (evX fr x).R ρ β (a.eval x) := by
  cases x with
  | tmp t =>
    simp only [evX, Act.eval]
    split
    · rename_i v e; exact h.fr t v e
    · trivial
  | const v => exact ofV_R ρ β v
  | func f => exact rfl
  | global g => trivial

theorem addr_add (b o n : Nat) : (⟨b, o, none⟩ : Addr).add n = ⟨b, o + n, none⟩ := by unfold Addr.add; split <;> simp_all

inductive RdRes where
  | val (v : AV)
  | ins (i : Ins) (mk : Nat → AV)

def isNotOp : UnOp → Bool
  | .not => true
  | _ => false

def isAggD : TypeDesc → Bool
  | .struct _ | .array _ _ => true
  | _ => false

/-- The numbers of math/bits.Add64 and Sub64 in the program. -/
structure Exts where
  add : FuncId
  sub : FuncId

def externX (X : Exts) (f : FuncId) (xs : List AV) : Option RdRes :=
  match xs with
  | [.one (.s x), .one (.s y), .one (.s c)] => match srcK x, srcK y, srcK c with
    | some (.u64, x), some (.u64, y), some (.u64, c) =>
      match x, y, c with
      | .c x, .c y, .c c =>
        if f = X.add then (if c ≤ 1 then some (.val (.tup [.s (.int .u64 ((x + y + c) % 18446744073709551616)), .s (.int .u64 ((x + y + c) / 18446744073709551616))])) else none)
        else if f = X.sub then (if c ≤ 1 then some (.val (.tup [.s (.int .u64 ((x - y - c) % 18446744073709551616)), .s (.int .u64 (if x < y + c then 1 else 0))])) else none)
        else none
      | x, y, c =>
      if f = X.add then some (.ins (.add64 x y c) fun b => .tup [.s (.var .u64 b), .s (.var .u64 (b + 1))])
      else if f = X.sub then some (.ins (.sub64 x y c) fun b => .tup [.s (.var .u64 b), .s (.var .u64 (b + 1))])
      else none
    | _, _, _ => none
  | _ => none

def cellsOf : AV → Option (List Sc)
  | .one (.s c) => some [c]
  | .one (.g cs) => some cs
  | .tup _ => none

def fillX (place : Nat → Option (Nat × Nat)) : List Sc → List (Nat × AV) → Option (List Sc)
  | cs, [] => some cs
  | cs, (i, v) :: rest => match place i, cellsOf v with
    | some (off, size), some ds => if ds.length = size ∧ off + ds.length ≤ cs.length ∧ ds.all Sc.known = true then fillX place (over cs off ds) rest else none
    | _, _ => none

def zeroX (P : Program) (t : TypeId) : Option (List Sc) :=
  match P.info? t with
  | some inf => match inf.zero with
    | some z => some (z.cells.toList.map ofSc)
    | none => none
  | none => none

/-- The places of a struct's fields: offset and size. -/
def placesX (P : Program) : List Field → Option (List (Nat × Nat))
  | [] => some []
  | f :: l => match P.info? f.type, placesX P l with
    | some inf, some l => some ((f.offset, inf.size) :: l)
    | _, _ => none

def buildX (P : Program) (ev : Operand → AV) (t : TypeId) (parts : Array (Nat × Operand)) : Option (List Sc) :=
  match zeroX P t, P.underlying t with
  | some z, some (.struct fs) => match placesX P fs.toList with
    | some ps => fillX (fun i => ps[i]?) z (parts.toList.map fun p => (p.1, ev p.2))
    | none => none
  | some z, some (.array _ el) => match P.info? el with
    | some inf => fillX (fun i => some (i * inf.size, inf.size)) z (parts.toList.map fun p => (p.1, ev p.2))
    | none => none
  | _, _ => none

/-- A bound of a slice expression: none, or a number. -/
def bdX (ev : Operand → AV) : Option Operand → Option (Option Int)
  | none => some none
  | some x => match ev x with
    | .one (.s (.int _ n)) => some (some n)
    | _ => none

/-- low, high, max of a slice expression, checked. -/
def bndX (len cap : Nat) (lo hi mx : Option Int) : Option (Nat × Nat × Nat) :=
  match (match mx with | none => some cap | some m => if 0 ≤ m ∧ m ≤ cap then some m.toNat else none) with
  | none => none
  | some m => match (match hi, mx with
      | some h, some _ => if 0 ≤ h ∧ h ≤ m then some h.toNat else none
      | some h, none => if 0 ≤ h ∧ h ≤ cap then some h.toNat else none
      | none, none => some len
      | none, some _ => none) with
    | none => none
    | some h => match (match lo with | none => some 0 | some l => if 0 ≤ l ∧ l ≤ h then some l.toNat else none) with
      | none => none
      | some l => some (l, h, m)

def sliceX (P : Program) (ev : Operand → AV) (t : TypeId) (x : Operand) (lo hi mx : Option Operand) : Option AV :=
  match bdX ev lo, bdX ev hi, bdX ev mx with
  | some lo, some hi, some mx => match P.underlying t, ev x with
    | some (.array n el), .one (.s (.ptr r o)) => match P.info? el, bndX n n lo hi mx with
      | some inf, some (l, h, m) => some (.one (.s (.slice r (if m = l then o else o + l * inf.size) (h - l) (m - l))))
      | _, _ => none
    | some (.pointer arr), .one (.s (.ptr r o)) => match P.underlying arr with
      | some (.array n el) => match P.info? el, bndX n n lo hi mx with
        | some inf, some (l, h, m) => some (.one (.s (.slice r (if m = l then o else o + l * inf.size) (h - l) (m - l))))
        | _, _ => none
      | _ => none
    | some (.slice el), .one (.s (.slice r o len cap)) => match P.info? el, bndX len cap lo hi mx with
      | some inf, some (l, h, m) => some (.one (.s (.slice r (if m = l then o else o + l * inf.size) (h - l) (m - l))))
      | _, _ => none
    | some (.slice el), .one (.s (.sliceU r o len)) => match P.info? el, mx, lo, hi with
      | some inf, none, some l, some h => if 0 ≤ l ∧ l < h ∧ h ≤ len then some (.one (.s (.sliceU r (o + l.toNat * inf.size) (h.toNat - l.toNat)))) else none
      | some inf, none, some l, none => if 0 ≤ l ∧ l < len then some (.one (.s (.sliceU r (o + l.toNat * inf.size) (len - l.toNat)))) else none
      | some _, none, none, some h => if 0 ≤ h ∧ h ≤ len then some (.one (.s (.sliceU r o h.toNat))) else none
      | some _, none, none, none => some (.one (.s (.sliceU r o len)))
      | _, _, _, _ => none
    | _, _ => none
  | _, _, _ => none

def lenX (P : Program) (t : TypeId) : AV → Option Int
  | .one (.s (.slice _ _ l _)) => match P.underlying t with
    | some (.slice _) => if (l : Int) ≤ 9223372036854775807 then some l else none
    | _ => none
  | .one (.s (.sliceU _ _ l)) => match P.underlying t with
    | some (.slice _) => if (l : Int) ≤ 9223372036854775807 then some l else none
    | _ => none
  | .one (.s .nils) => match P.underlying t with
    | some (.slice _) => some 0
    | _ => none
  | .one (.s (.str s)) => match P.underlying t with
    | some .string => if (s.size : Int) ≤ 9223372036854775807 then some s.size else none
    | _ => none
  | _ => none

/-- The length that is a number. -/
def lenVX (P : Program) (t : TypeId) : AV → Option Nat
  | .one (.s (.sliceV i)) => match P.underlying t with
    | some (.slice _) => some i
    | _ => none
  | .one (.s (.sliceN _ i)) => match P.underlying t with
    | some (.slice _) => some i
    | _ => none
  | _ => none

/-- Comparison of interface values with nil. -/
def ifaceX (op : BinOp) (x y : Operand) : Sc → Sc → Option Bool
  | .iface .., .nilIface => match op with | .eql => some false | .neq => some true | _ => none
  | .nilIface, .iface .. => match op with | .eql => some false | .neq => some true | _ => none
  | .nilIface, .nilIface => match x, y, op with
    | .const _, _, .eql => some true
    | .const _, _, .neq => some false
    | _, .const _, .eql => some true
    | _, .const _, .neq => some false
    | _, _, _ => none
  | _, _ => none

/-- Comparison of slices with nil. -/
def sliceNilX (op : BinOp) : Sc → Sc → Option Bool
  | .slice .., .nils => match op with | .eql => some false | .neq => some true | _ => none
  | .sliceU .., .nils => match op with | .eql => some false | .neq => some true | _ => none
  | .sliceN .., .nils => match op with | .eql => some false | .neq => some true | _ => none
  | .nils, .nils => match op with | .eql => some true | .neq => some false | _ => none
  | _, _ => none

/-- Comparison of bools, one of which is known. -/
def boolEq (op : BinOp) : Sc → Sc → Option RdRes
  | .bool a, .bool b => match op with | .eql => some (.val (.one (.s (.bool (a == b))))) | .neq => some (.val (.one (.s (.bool (a != b))))) | _ => none
  | .boolv i, .bool b => match op, b with
    | .eql, true | .neq, false => some (.val (.one (.s (.boolv i))))
    | .eql, false | .neq, true => some (.ins (.notb i) fun b => .one (.s (.boolv b)))
    | _, _ => none
  | .bool b, .boolv i => match op, b with
    | .eql, true | .neq, false => some (.val (.one (.s (.boolv i))))
    | .eql, false | .neq, true => some (.ins (.notb i) fun b => .one (.s (.boolv b)))
    | _, _ => none
  | _, _ => none

def rdX (P : Program) (X : Exts) (ev : Operand → AV) (hp : List Reg) : Op → Option RdRes
  | .move x | .assign x => some (.val (ev x))
  | .nilCheck x => match ev x with
    | .one (.s (.ptr r o)) => some (.val (.one (.s (.ptr r o))))
    | _ => none
  | .indexAddr t x i => match P.underlying t, ev x, ev i with
    | some (.array len el), .one (.s (.ptr r o)), .one (.s (.int _ n)) => match P.info? el with
      | some inf => if 0 ≤ n ∧ n < len then some (.val (.one (.s (.ptr r (o + n.toNat * inf.size))))) else none
      | none => none
    | some (.slice el), .one (.s (.slice r o len _)), .one (.s (.int _ n)) => match P.info? el with
      | some inf => if 0 ≤ n ∧ n < len then some (.val (.one (.s (.ptr r (o + n.toNat * inf.size))))) else none
      | none => none
    | some (.slice el), .one (.s (.sliceU r o len)), .one (.s (.int _ n)) => match P.info? el with
      | some inf => if 0 ≤ n ∧ n < len then some (.val (.one (.s (.ptr r (o + n.toNat * inf.size))))) else none
      | none => none
    | _, _, _ => none
  | .fieldAddr t x f => match P.underlying t, ev x with
    | some (.struct fs), .one (.s (.ptr r o)) => match fs[f]? with
      | some fl => match P.info? fl.type with
        | some inf => if inf.size = 0 then none else some (.val (.one (.s (.ptr r (o + fl.offset)))))
        | none => none
      | none => none
    | _, _ => none
  | .load t x => match P.underlying t, P.info? t, ev x with
    | some d, some inf, .one (.s (.ptr r o)) => match hp[r]? with
      | some g => if isAggD d then (if o + inf.size ≤ g.cs.length then some (.val (.one (.g ((g.cs.drop o).take inf.size)))) else none)
        else match g.cs[o]? with
          | some c => some (.val (.one (.s c)))
          | none => none
      | none => none
    | _, _, _ => none
  | .extract x i => match ev x with
    | .tup vs => match vs[i]? with
      | some a => some (.val (.one a))
      | none => none
    | _ => none
  | .convert s d x => match P.underlying s, P.underlying d, ev x with
    | some _, some (.int kd), .one (.s (.int _ n)) => some (.val (.one (.s (.int kd (kd.wrap n)))))
    | some _, some (.int kd), .one (.s (.var ks i)) => if kd = ks then some (.val (.one (.s (.var ks i)))) else some (.ins (.conv kd (.v i)) fun b => .one (.s (.var kd b)))
    | _, _, _ => none
  | .binOp op t x y _ => match ev x, ev y with
    | .one (.s sx), .one (.s sy) => match srcK sx, srcK sy with
      | some (k, a), some (k', b) =>
        if isCmp op then
          if k = k' then match a, b with
            | .c m, .c n => some (.val (.one (.s (.bool (cmpFn op m n)))))
            | _, _ => some (.ins (.cmp op a b) fun b => .one (.s (.boolv b)))
          else none
        else if binOk op && (isShift op || k == k') then match a, b with
            | .c m, .c n => if binPreB op n then some (.val (.one (.s (.int k (binFn op k m n))))) else none
            | _, _ => some (.ins (.bin op k a b) fun b => .one (.s (.var k b)))
        else none
      | _, _ => match P.underlying t, ifaceX op x y sx sy with
        | some (.interface _), some b => some (.val (.one (.s (.bool b))))
        | some (.slice _), _ => match sliceNilX op sx sy with
          | some b => some (.val (.one (.s (.bool b))))
          | none => none
        | some .bool, _ => boolEq op sx sy
        | _, _ => none
    | _, _ => none
  | .unOp op _ x => match ev x with
    | .one (.s (.bool b)) => if isNotOp op then some (.val (.one (.s (.bool !b)))) else none
    | .one (.s (.boolv i)) => if isNotOp op then some (.ins (.notb i) fun b => .one (.s (.boolv b))) else none
    | .one (.s (.int k n)) => if unOk op then some (.val (.one (.s (.int k (unFn op k n))))) else none
    | .one (.s (.var k i)) => if unOk op then some (.ins (.un op k (.v i)) fun b => .one (.s (.var k b))) else none
    | _ => none
  | .call c => match c.callee with
    | .value (.func f) => externX X f (c.args.toList.map ev)
    | .builtin .len => match c.argTypes.toList, c.args.toList with
      | t :: _, x :: _ => match lenVX P t (ev x) with
        | some i => some (.val (.one (.s (.var .i64 i))))
        | none => match lenX P t (ev x) with
          | some n => some (.val (.one (.s (.int .i64 n))))
          | none => none
      | _, _ => none
    | _ => none
  | .build t parts => match buildX P ev t parts with
    | some cs => some (.val (.one (.g cs)))
    | none => none
  | .slice t x lo hi mx => match sliceX P ev t x lo hi mx with
    | some v => some (.val v)
    | none => none
  | .index t x i => match P.underlying t, ev x, ev i with
    | some (.array len el), .one (.g cs), .one (.s (.int _ n)) => match P.info? el, P.underlying el with
      | some inf, some d => if 0 ≤ n ∧ n < len ∧ isAggD d = false then (match cs[n.toNat * inf.size]? with
        | some c => some (.val (.one (.s c)))
        | none => none) else none
      | _, _ => none
    | some .string, .one (.s (.str s)), .one (.s (.int _ n)) => if 0 ≤ n then (match s[n.toNat]? with
        | some b => some (.val (.one (.s (.int .u8 b.toNat))))
        | none => none) else none
    | _, _, _ => none
  | .field t x f => match P.underlying t, ev x with
    | some (.struct fs), .one (.g cs) => match fs[f]? with
      | some fl => match P.underlying fl.type, P.info? fl.type with
        | some d, some inf => if isAggD d then (if fl.offset + inf.size ≤ cs.length then some (.val (.one (.g ((cs.drop fl.offset).take inf.size)))) else none)
          else match cs[fl.offset]? with
            | some c => some (.val (.one (.s c)))
            | none => none
        | _, _ => none
      | none => none
    | _, _ => none
  | .sliceToArrayPointer arr x => match P.underlying arr, ev x with
    | some (.array n _), .one (.s (.slice r o len _)) => if n ≤ len then some (.val (.one (.s (.ptr r o)))) else none
    | some (.array n _), .one (.s (.sliceU r o len)) => if n ≤ len then some (.val (.one (.s (.ptr r o)))) else none
    | _, _ => none
  | .makeInterface t x => match P.underlying t, ev x with
    | some (.interface _), _ => none
    | some _, .one (.s c) => some (.val (.one (.s (.iface t c))))
    | _, _ => none
  | .pick c x y => match ev c with
    | .one (.s (.bool b)) => some (.val (if b then ev x else ev y))
    | _ => none
  | _ => none
end Go.Sx

/- The reading operations are carried out as the executor says. -/
namespace Go.Sx
open Go
section
variable {P : Program} {rels : Nat → RelSpec} {S0 : Old} {ρ : Env} {β : Base} {hp : List Reg} {w0 w : World} {a : Act} {ev : Operand → AV}

def isLoad : Op → Bool
  | .load .. => true
  | _ => false

def RdOk (P : Program) (rels : Nat → RelSpec) (ρ : Env) (β : Base) (w : World) (o : Oper) (a : Act) : RdRes → Prop
  | .val av => ∃ S v, Holds S w ∧ (isLoad o.op = false → S = []) ∧ (∀ w', Holds S w' → (execOp a.eval o).run P w' = .ok (.value v) w') ∧ av.R ρ β v
  | .ins I mk => ∀ K, I.vc rels ρ K → ∃ outs S v, K outs ∧ outs.length = I.outs ∧ Holds S w ∧ (isLoad o.op = false → S = []) ∧ (∀ w', Holds S w' → (execOp a.eval o).run P w' = .ok (.value v) w') ∧ (mk ρ.length).R (ρ ++ outs) β v

theorem holds_nil (w : World) : Holds [] w := fun p hp => by cases hp

/-- A pure value. -/
theorem RdOk.pure_ {o : Oper} {av : AV} (v : Value) (hrun : ∀ w', (execOp a.eval o).run P w' = .ok (.value v) w') (hR : av.R ρ β v) : RdOk P rels ρ β w o a (.val av) :=
  ⟨[], v, holds_nil w, fun _ => rfl, fun w' _ => hrun w', hR⟩

theorem RdOk.ins1 {o : Oper} {I : Ins} {mk : Nat → AV} (n : Int) (v : Value) (hI : ∀ K, I.vc rels ρ K → K [n]) (ho : I.outs = 1) (hrun : ∀ w', (execOp a.eval o).run P w' = .ok (.value v) w')
    (hR : (mk ρ.length).R (ρ ++ [n]) β v) : RdOk P rels ρ β w o a (.ins I mk) :=
  fun K hK => ⟨[n], [], v, hI K hK, by simp [ho], holds_nil w, fun _ => rfl, fun w' _ => hrun w', hR⟩

theorem last1 (ρ : Env) (n : Int) : (ρ ++ [n])[ρ.length]? = some n := by simp
theorem last2 (ρ : Env) (n m : Int) : (ρ ++ [n, m])[ρ.length]? = some n ∧ (ρ ++ [n, m])[ρ.length + 1]? = some m := by
  constructor
  · simp
  · rw [List.getElem?_append_right (by omega)]; simp

theorem ok_move {o : Oper} {x : Operand} (ho : o.op = .move x ∨ o.op = .assign x) (hev : ∀ x, (ev x).R ρ β (a.eval x)) : RdOk P rels ρ β w o a (.val (ev x)) := by
  refine RdOk.pure_ (a.eval x) (fun w' => ?_) (hev x)
  rcases ho with ho | ho <;> simp [execOp, ho]

theorem ok_nilCheck {o : Oper} {x : Operand} {r i : Nat} (ho : o.op = .nilCheck x) (hx : (AV.one (.s (.ptr r i))).R ρ β (a.eval x)) : RdOk P rels ρ β w o a (.val (.one (.s (.ptr r i)))) := by
  obtain ⟨b, hb, hv⟩ := hx
  exact RdOk.pure_ _ (fun w' => by simp [execOp, ho, hv]) ⟨b, hb, rfl⟩

theorem run_indexAt_array {t : TypeId} {len : Nat} {el : TypeId} {inf : TypeInfo} {k : IntKind} {n : Int} {b o : Nat} {w' : World} (hu : P.underlying t = some (.array len el)) (hi : P.info? el = some inf) (h0 : 0 ≤ n) (h1 : n < len) :
    (Instr.indexAt t (.pointer (some ⟨b, o, none⟩)) (.int k n)).run P w' = .ok (.pointer (some ⟨b, o + n.toNat * inf.size, none⟩)) w' := by
  simp [Instr.indexAt, asIntOf, run_underlying hu, Instr.sureAddr, sizeOf, typeInfo, hi, h0, h1, addr_add]

theorem run_indexAt_slice {t : TypeId} {len cap : Nat} {el : TypeId} {inf : TypeInfo} {k : IntKind} {n : Int} {b o : Nat} {w' : World} (hu : P.underlying t = some (.slice el)) (hi : P.info? el = some inf) (h0 : 0 ≤ n) (h1 : n < len) :
    (Instr.indexAt t (.slice (some ⟨b, o, none⟩) len cap) (.int k n)).run P w' = .ok (.pointer (some ⟨b, o + n.toNat * inf.size, none⟩)) w' := by
  simp [Instr.indexAt, asIntOf, run_underlying hu, sizeOf, typeInfo, hi, h0, h1, addr_add]

theorem run_fieldAt {t : TypeId} {fs : Array Field} {f : Nat} {fl : Field} {inf : TypeInfo} {b o : Nat} {w' : World} (hu : P.underlying t = some (.struct fs)) (hf : fs[f]? = some fl) (hi : P.info? fl.type = some inf) (hz : inf.size ≠ 0) :
    (Instr.fieldAt t (.pointer (some ⟨b, o, none⟩)) f).run P w' = .ok (.pointer (some ⟨b, o + fl.offset, none⟩)) w' := by
  simp [Instr.fieldAt, run_underlying hu, hf, Instr.sureAddr, fieldPlace, sizeOf, typeInfo, hi, hz, addr_add]

theorem run_loadAt_one {t : TypeId} {d : TypeDesc} {b o : Nat} {v : Value} {w' : World} (hu : P.underlying t = some d) (hd : isAggD d = false) (hc : w'.cell? ⟨b, o, none⟩ = some v) :
    (Instr.loadAt t (.pointer (some ⟨b, o, none⟩))).run P w' = .ok v w' := by
  cases d <;> simp [isAggD] at hd <;> simp [Instr.loadAt, Instr.sureAddr, loadVar, isAgg, run_underlying hu, hc]

theorem run_loadAt_agg {t : TypeId} {d : TypeDesc} {inf : TypeInfo} {b o : Nat} {vs : List Value} {w' : World} (hu : P.underlying t = some d) (hd : isAggD d = true) (hi : P.info? t = some inf) (hl : vs.length = inf.size)
    (hc : ∀ (j : Nat) v, vs[j]? = some v → w'.cell? ⟨b, o + j, none⟩ = some v) :
    (Instr.loadAt t (.pointer (some ⟨b, o, none⟩))).run P w' = .ok (.agg vs.toArray) w' := by
  have := run_loadCells_list (P := P) w' ⟨b, o, none⟩ vs (fun j v h => by rw [addr_add]; exact hc j v h)
  rw [hl] at this
  cases d <;> simp [isAggD] at hd <;> simp [Instr.loadAt, Instr.sureAddr, loadVar, isAgg, run_underlying hu, sizeOf, typeInfo, hi, this]

theorem run_value {s : Sem Value} {v : Value} {w' : World} (h : s.run P w' = .ok v w') : (do pure (Next.value (← s)) : Sem Next).run P w' = .ok (.value v) w' := by
  simp [h]

/-- The values of a stretch of a region's cells. -/
theorem Mem.cells (h : Mem S0 ρ β hp w0 w) {r : Nat} {g : Reg} {x : Nat × Nat} (hr : hp[r]? = some g) (hx : β[r]? = some x) : ∀ (n o : Nat), o + n ≤ g.cs.length →
    ∃ vs : List Value, vs.length = n ∧ All2 (Sc.R ρ β) ((g.cs.drop o).take n) vs ∧ ∀ (j : Nat) v, vs[j]? = some v → w.cell? ⟨x.1, x.2 + o + j, none⟩ = some v
  | 0, o, _ => ⟨[], rfl, by simp [All2], fun j v e => by simp at e⟩
  | n + 1, o, hl => by
    have hlt : o < g.cs.length := by omega
    obtain ⟨v, hv, hR⟩ := h.cell r g x hr hx o _ (List.getElem?_eq_getElem hlt)
    obtain ⟨vs, h1, h2, h3⟩ := h.cells hr hx n (o + 1) (by omega)
    refine ⟨v :: vs, by simp [h1], ?_, fun j u e => ?_⟩
    · rw [List.drop_eq_getElem_cons hlt, List.take_succ_cons]
      exact ⟨hR, h2⟩
    · cases j with
      | zero => simp at e; subst e; simpa using hv
      | succ j =>
        have := h3 j u (by simpa using e)
        rwa [show x.2 + (o + 1) + j = x.2 + o + (j + 1) by omega] at this

theorem ok_binArith {o : Oper} {op : BinOp} {t u : TypeId} {x y : Operand} {k k' : IntKind} {m n : Int} (ho : o.op = .binOp op t x y u) (hx : a.eval x = .int k m) (hy : a.eval y = .int k' n)
    (hb : binOk op = true) (hk : isShift op = true ∨ k = k') (hp : binPre op n) (w' : World) : (execOp a.eval o).run P w' = .ok (.value (.int k (binFn op k m n))) w' := by
  have g : (eqGuard op t x y (.int k m) (.int k' n)).run P w' = .ok () w' := by
    cases op <;> simp [eqGuard]
  have e : (binOp op t (.int k m) (.int k' n)).run P w' = .ok (.int k (binFn op k m n)) w' := by
    cases op <;> simp [binOk] at hb <;> simp [isShift] at hk <;> simp [binPre, isDiv, isShift] at hp <;>
      first
        | (simp [binOp, Op.shift, Op.intArith, Op.intDiv, Op.intBits, binFn, hk, hp]; done)
        | (have h0 : ¬ n < 0 := by omega
           simp [binOp, Op.shift, Op.intArith, Op.intDiv, Op.intBits, binFn, h0])
  simp [execOp, ho, hx, hy, g, e]

theorem ok_binCmp {o : Oper} {op : BinOp} {t u : TypeId} {x y : Operand} {k : IntKind} {m n : Int} (ho : o.op = .binOp op t x y u) (hx : a.eval x = .int k m) (hy : a.eval y = .int k n)
    (hb : isCmp op = true) (w' : World) : (execOp a.eval o).run P w' = .ok (.value (.bool (cmpFn op m n))) w' := by
  have g : (eqGuard op t x y (.int k m) (.int k n)).run P w' = .ok () w' := by
    cases op <;> simp [eqGuard]
  have e : (binOp op t (.int k m) (.int k n)).run P w' = .ok (.bool (cmpFn op m n)) w' := by
    cases op <;> simp [isCmp] at hb <;> simp [binOp, Op.intCmp, cmpFn]
  simp [execOp, ho, hx, hy, g, e]

theorem arg_of {x : Operand} {s : Sc} (hev : ∀ x, (ev x).R ρ β (a.eval x)) (h : ev x = .one (.s s)) : s.R ρ β (a.eval x) := by
  have := hev x
  rw [h] at this
  exact this

theorem fits_u64_mod (n : Int) : Fits .u64 (n % 18446744073709551616) := by simp only [Fits, kmin, kmax]; omega
theorem fits_u64_carry {x y c : Int} (h1 : Fits .u64 x) (h2 : Fits .u64 y) (h3 : Fits .u64 c) : Fits .u64 ((x + y + c) / 18446744073709551616) := by
  simp only [Fits, kmin, kmax] at *
  omega
theorem fits_u64_bit (p : Prop) [Decidable p] : Fits .u64 (if p then 1 else 0) := by
  split <;> (simp only [Fits, kmin, kmax]; omega)

structure ExtOk (P : Program) (X : Exts) : Prop where
  add : ∀ (x y c : Int) (w : World), Fits .u64 x → Fits .u64 y → Fits .u64 c → c ≤ 1 →
    (callFunc X.add #[.int .u64 x, .int .u64 y, .int .u64 c]).run P w = .ok (.value (.tuple #[.int .u64 ((x + y + c) % 18446744073709551616), .int .u64 ((x + y + c) / 18446744073709551616)])) w
  sub : ∀ (x y c : Int) (w : World), Fits .u64 x → Fits .u64 y → Fits .u64 c → c ≤ 1 →
    (callFunc X.sub #[.int .u64 x, .int .u64 y, .int .u64 c]).run P w = .ok (.value (.tuple #[.int .u64 ((x - y - c) % 18446744073709551616), .int .u64 (if x < y + c then 1 else 0)])) w

theorem run_call {o : Oper} {f : FuncId} {args : Array Operand} {tys : Array TypeId} (ho : o.op = .call { callee := .value (.func f), args := args, argTypes := tys }) (w' : World) :
    (execOp a.eval o).run P w' = (callFunc f (args.map a.eval)).run P w' := by
  simp [execOp, ho, resolve, Deferred.ofValue, invoke, Act.eval]

theorem RdOk.pair {o : Oper} {I : Ins} (s c : Int) (hI : ∀ K, I.vc rels ρ K → K [s, c] ∧ Fits .u64 s ∧ Fits .u64 c ∧ ∀ w', (execOp a.eval o).run P w' = .ok (.value (.tuple #[.int .u64 s, .int .u64 c])) w') (ho : I.outs = 2) :
    RdOk P rels ρ β w o a (.ins I fun b => .tup [.s (.var .u64 b), .s (.var .u64 (b + 1))]) := by
  intro K hK
  obtain ⟨h1, h2, h3, h4⟩ := hI K hK
  refine ⟨[s, c], [], _, h1, by simp [ho], holds_nil w, fun _ => rfl, fun w' _ => h4 w', ?_⟩
  refine ⟨[.int .u64 s, .int .u64 c], rfl, ?_, ?_, trivial⟩
  · exact ⟨s, (last2 ρ s c).1, rfl, h2⟩
  · exact ⟨c, (last2 ρ s c).2, rfl, h3⟩

theorem ok_extern {X : Exts} (hX : ExtOk P X) {o : Oper} {f : FuncId} {args : Array Operand} {tys : Array TypeId} {r : RdRes} (ho : o.op = .call { callee := .value (.func f), args := args, argTypes := tys })
    (hev : ∀ x, (ev x).R ρ β (a.eval x)) (h : externX X f (args.toList.map ev) = some r) : RdOk P rels ρ β w o a r := by
  obtain ⟨args⟩ := args
  match args, h with
  | [ax, ay, ac], h =>
    simp only [externX, List.map_cons, List.map_nil] at h
    split at h
    · rename_i x y c hargs
      simp only [List.cons.injEq, and_true] at hargs
      obtain ⟨e1, e2, e3⟩ := hargs
      split at h
      · rename_i x' y' c' hx hy hc
        obtain ⟨v1, f1⟩ := srcK_spec hx (arg_of hev e1)
        obtain ⟨v2, f2⟩ := srcK_spec hy (arg_of hev e2)
        obtain ⟨v3, f3⟩ := srcK_spec hc (arg_of hev e3)
        have hr : ∀ w', (execOp a.eval o).run P w' = (callFunc f #[.int .u64 (x'.ev ρ), .int .u64 (y'.ev ρ), .int .u64 (c'.ev ρ)]).run P w' := fun w' => by
          rw [run_call ho w']
          simp [v1, v2, v3]
        split at h
        · rename_i x1 y1 c1
          simp only [Src.ev] at f1 f2 f3 hr
          split at h
          · rename_i hn
            split at h
            · rename_i hc1
              obtain rfl := Option.some.inj h
              subst hn
              refine RdOk.pure_ _ (fun w' => (hr w').trans (hX.add _ _ _ w' f1 f2 f3 hc1)) ⟨[_, _], rfl, ⟨rfl, fits_u64_mod _⟩, ⟨rfl, fits_u64_carry f1 f2 f3⟩, trivial⟩
            · cases h
          · split at h
            · rename_i hn
              split at h
              · rename_i hc1
                obtain rfl := Option.some.inj h
                subst hn
                refine RdOk.pure_ _ (fun w' => (hr w').trans (hX.sub _ _ _ w' f1 f2 f3 hc1)) ⟨[_, _], rfl, ⟨rfl, fits_u64_mod _⟩, ⟨rfl, fits_u64_bit _⟩, trivial⟩
              · cases h
            · cases h
        · split at h
          · rename_i hn
            obtain rfl := Option.some.inj h
            subst hn
            refine RdOk.pair _ _ (fun K hK => ⟨hK.2 _ _ rfl rfl, fits_u64_mod _, fits_u64_carry f1 f2 f3, fun w' => ?_⟩) rfl
            rw [hr w', hX.add _ _ _ w' f1 f2 f3 hK.1]
          · split at h
            · rename_i hn
              obtain rfl := Option.some.inj h
              subst hn
              refine RdOk.pair _ _ (fun K hK => ⟨hK.2 _ _ rfl rfl, fits_u64_mod _, fits_u64_bit _, fun w' => ?_⟩) rfl
              rw [hr w', hX.sub _ _ _ w' f1 f2 f3 hK.1]
            · cases h
      · cases h
    · cases h
  | [], h => simp [externX] at h
  | [_], h => simp [externX] at h
  | [_, _], h => simp [externX] at h
  | _ :: _ :: _ :: _ :: _, h => simp [externX] at h

theorem known_one' {c : Sc} {v : Value} (h : c.known = true) (hR : c.R ρ β v) : v.oneCell' = true := by
  cases c <;> simp [Sc.known] at h
  case bool => cases hR; rfl
  case boolv => obtain ⟨_, _, rfl⟩ := hR; rfl
  case int => obtain ⟨rfl, _⟩ := hR; rfl
  case var => obtain ⟨_, _, rfl, _⟩ := hR; rfl
  case ptr => obtain ⟨_, _, rfl⟩ := hR; rfl
  case nilp => cases hR; rfl
  case slice => obtain ⟨_, _, rfl⟩ := hR; rfl
  case sliceU => obtain ⟨_, _, _, rfl, _⟩ := hR; rfl
  case sliceW => obtain ⟨_, _, _, rfl, _⟩ := hR; rfl
  case sliceV => obtain ⟨_, _, _, _, rfl, _⟩ := hR; rfl
  case sliceC => obtain ⟨_, _, _, _, rfl, _⟩ := hR; rfl
  case sliceN => obtain ⟨_, _, _, _, _, _, rfl, _⟩ := hR; rfl
  case nils => cases hR; rfl
  case str => cases hR; rfl
  case func => cases hR; rfl
  case iface => obtain ⟨_, rfl, _⟩ := hR; rfl
  case nilIface => cases hR; rfl

theorem cellsOf_R {v : AV} {cs : List Sc} {u : Value} (h : cellsOf v = some cs) (hk : cs.all Sc.known = true) (hR : v.R ρ β u) : All2 (Sc.R ρ β) cs u.cells.toList := by
  unfold cellsOf at h
  split at h
  · obtain rfl := Option.some.inj h
    rename_i c
    have h1 := known_one' (by simpa using hk) hR
    have : u.cells = #[u] := by cases u <;> simp [Value.oneCell'] at h1 <;> rfl
    rw [this]
    exact ⟨hR, trivial⟩
  · obtain rfl := Option.some.inj h
    obtain ⟨us, rfl, h2⟩ := hR
    simpa [Value.cells] using h2
  · cases h

theorem all2_set {R : Sc → Value → Prop} : ∀ {l : List Sc} {m : List Value} (i : Nat) {c : Sc} {v : Value}, All2 R l m → R c v → All2 R (l.set i c) (m.set i v)
  | [], [], _, _, _, _, _ => trivial
  | _ :: _, _ :: _, 0, _, _, h, k => ⟨k, h.2⟩
  | _ :: _, _ :: _, i + 1, _, _, h, k => ⟨h.1, all2_set i h.2 k⟩

/-- The model's filling of a part, as 'over'. -/
theorem foldl_over : ∀ (ds : List Value) (off j : Nat) (cs : Array Value), ((ds.zipIdx j).foldl (fun (cs : Array Value) (p : Value × Nat) => cs.setIfInBounds (off + p.2) p.1) cs).toList = over cs.toList (off + j) ds
  | [], _, _, _ => rfl
  | d :: ds, off, j, cs => by
    simp only [List.zipIdx_cons, List.foldl_cons]
    rw [foldl_over ds off (j + 1)]
    simp [over, Nat.add_assoc]
theorem all2_over {R : Sc → Value → Prop} : ∀ (ds : List Sc) (us : List Value) (l : List Sc) (m : List Value) (i : Nat), All2 R l m → All2 R ds us → All2 R (over l i ds) (over m i us)
  | [], [], _, _, _, h, _ => h
  | d :: ds, u :: us, l, m, i, h, k => all2_over ds us _ _ (i + 1) (all2_set i h k.1) k.2

theorem fillX_ok {place : Nat → Option (Nat × Nat)} : ∀ (ps : List (Nat × AV)) (vs : List (Nat × Value)) (cs cs' : List Sc) (m : Array Value), All2 (fun (a : Nat × AV) (b : Nat × Value) => a.1 = b.1 ∧ a.2.R ρ β b.2) ps vs → All2 (Sc.R ρ β) cs m.toList → fillX place cs ps = some cs' →
    ∃ m', Instr.fill place m vs = some m' ∧ All2 (Sc.R ρ β) cs' m'.toList
  | [], [], cs, cs', m, _, hR, h => by simp [fillX] at h; subst h; exact ⟨m, rfl, hR⟩
  | (i, a) :: ps, (i', u) :: vs, cs, cs', m, hv, hR, h => by
    simp only [fillX] at h
    obtain ⟨⟨rfl, hR1⟩, hv'⟩ := hv
    split at h
    · rename_i off size ds hpl hcs
      split at h
      · rename_i hc
        obtain ⟨h1, h2, h3⟩ := hc
        have hd := cellsOf_R hcs h3 hR1
        have hl := hd.length
        have hm := hR.length
        simp at hl hm
        have key : (u.cells.zipIdx.foldl (fun (cs : Array Value) (p : Value × Nat) => cs.setIfInBounds (off + p.2) p.1) m).toList = over m.toList off u.cells.toList := by
          rw [← Array.foldl_toList, Array.toList_zipIdx]
          exact foldl_over _ off 0 m
        obtain ⟨m', k1, k2⟩ := fillX_ok ps vs _ cs' (u.cells.zipIdx.foldl (fun (cs : Array Value) (p : Value × Nat) => cs.setIfInBounds (off + p.2) p.1) m) hv' (by rw [key]; exact all2_over ds _ _ _ off hR hd) h
        refine ⟨m', ?_, k2⟩
        simp only [Instr.fill, hpl]
        rw [if_neg (by simp; omega)]
        exact k1
      · cases h
    · cases h

theorem zeroX_ok {t : TypeId} {cs : List Sc} (h : zeroX P t = some cs) : ∃ inf z, P.info? t = some inf ∧ inf.zero = some z ∧ All2 (Sc.R ρ β) cs z.cells.toList := by
  unfold zeroX at h
  split at h
  · rename_i inf hi
    split at h
    · rename_i z hz
      obtain rfl := Option.some.inj h
      exact ⟨inf, z, hi, hz, all2_ofSc ρ β _⟩
    · cases h
  · cases h

theorem placesX_ok : ∀ (fs : List Field) (ps : List (Nat × Nat)), placesX P fs = some ps → ∀ w' : World, (fs.mapM (fun f => (do pure (f.offset, ← sizeOf f.type) : Sem (Nat × Nat)))).run P w' = .ok ps w'
  | [], ps, h, w' => by simp [placesX] at h; subst h; simp
  | f :: fs, ps, h, w' => by
    simp only [placesX] at h
    split at h
    · rename_i inf l hi hl
      obtain rfl := Option.some.inj h
      have ih := placesX_ok fs l hl w'
      rw [List.mapM_cons]
      simp [sizeOf, typeInfo, hi]
      simp [sizeOf, typeInfo] at ih
      rw [ih]
      simp
    · cases h

theorem parts_R (hev : ∀ x, (ev x).R ρ β (a.eval x)) : ∀ ps : List (Nat × Operand), All2 (fun (x : Nat × AV) (y : Nat × Value) => x.1 = y.1 ∧ x.2.R ρ β y.2) (ps.map fun p => (p.1, ev p.2)) (ps.map fun p => (p.1, a.eval p.2))
  | [] => trivial
  | p :: ps => ⟨⟨rfl, hev p.2⟩, parts_R hev ps⟩

theorem buildX_ok {t : TypeId} {parts : Array (Nat × Operand)} {cs : List Sc} (hev : ∀ x, (ev x).R ρ β (a.eval x)) (h : buildX P ev t parts = some cs) :
    ∃ m : Array Value, (∀ w', (Instr.build t (parts.map fun (i, x) => (i, a.eval x))).run P w' = .ok (.agg m) w') ∧ All2 (Sc.R ρ β) cs m.toList := by
  have hparts := parts_R hev parts.toList
  have hpl : (parts.map fun (i, x) => (i, a.eval x)).toList = parts.toList.map fun p => (p.1, a.eval p.2) := by simp
  unfold buildX at h
  split at h
  · rename_i z fs hz hu
    obtain ⟨inf, zv, hi, hzv, hzR⟩ := zeroX_ok (ρ := ρ) (β := β) hz
    split at h
    · rename_i ps hps
      obtain ⟨m, h1, h2⟩ := fillX_ok _ _ _ _ zv.cells hparts hzR h
      refine ⟨m, fun w' => ?_, h2⟩
      have hpm := placesX_ok fs.toList ps hps w'
      simp only [Instr.build, Sem.run_bind, zeroValue, typeInfo, run_program, Result.andThen_ok, hi, Sem.run_pure, hzv, run_underlying hu]
      rw [Array.mapM_eq_mapM_toList]
      simp only [Sem.run_map]
      rw [hpm]
      have h1' : Instr.fill (fun i => ps.toArray[i]?) zv.cells (parts.map fun (i, x) => (i, a.eval x)).toList = some m := by
        rw [hpl]
        simpa using h1
      simp only [Result.andThen_ok, Sem.run_bind, Sem.run_pure]
      rw [h1']
      rfl
    · cases h
  · rename_i z n el hz hu
    obtain ⟨inf, zv, hi, hzv, hzR⟩ := zeroX_ok (ρ := ρ) (β := β) hz
    split at h
    · rename_i einf hei
      obtain ⟨m, h1, h2⟩ := fillX_ok _ _ _ _ zv.cells hparts hzR h
      refine ⟨m, fun w' => ?_, h2⟩
      rw [← hpl] at h1
      simp [Instr.build, zeroValue, typeInfo, hi, hzv, run_underlying hu, sizeOf, hei]
      simp at h1
      rw [h1]
      simp
    · cases h
  · cases h

theorem bdX_ok {x : Option Operand} {n : Option Int} (hev : ∀ x, (ev x).R ρ β (a.eval x)) (h : bdX ev x = some n) : ∃ k : Int → IntKind, x.map a.eval = n.map fun i => Value.int (k i) i := by
  unfold bdX at h
  split at h
  · obtain rfl := Option.some.inj h
    exact ⟨fun _ => .i64, rfl⟩
  · rename_i x
    split at h
    · rename_i k m ex
      obtain rfl := Option.some.inj h
      obtain ⟨hv, _⟩ := arg_of hev ex
      exact ⟨fun _ => k, by simp [hv]⟩
    · cases h

theorem run_bounds {sl : Bool} {len cap : Nat} {lo hi mx : Option Int} {l h m : Nat} (k1 k2 k3 : Int → IntKind) (hb : bndX len cap lo hi mx = some (l, h, m)) (w' : World) :
    (Instr.sliceBounds sl len cap (lo.map fun i => .int (k1 i) i) (hi.map fun i => .int (k2 i) i) (mx.map fun i => .int (k3 i) i)).run P w' = .ok (l, h, m) w' := by
  have sb : ∀ (k : IntKind) (i : Int) (y : Nat) (c : BoundsCode), 0 ≤ i ∧ i ≤ y → (Instr.sliceBound (.int k i) y c).run P w' = .ok i.toNat w' := fun k i y c hi => by
    simp [Instr.sliceBound, asIntOf, hi.1, hi.2]
  unfold bndX at hb
  cases mx with
  | none =>
    simp only at hb
    cases hi with
    | none =>
      simp only at hb
      cases lo with
      | none =>
        simp only [Option.some.injEq, Prod.mk.injEq] at hb
        obtain ⟨rfl, rfl, rfl⟩ := hb
        simp [Instr.sliceBounds]
      | some l0 =>
        simp only at hb
        split at hb <;> first | (cases hb; done) | skip
        rename_i l1 hl1
        split at hl1 <;> first | (cases hl1; done) | skip
        rename_i hc
        simp only [Option.some.injEq, Prod.mk.injEq] at hb hl1
        obtain ⟨rfl, rfl, rfl⟩ := hb
        subst hl1
        simp [Instr.sliceBounds, sb _ _ _ _ hc]
    | some h0 =>
      simp only at hb
      split at hb <;> first | (cases hb; done) | skip
      rename_i h1 hh1
      split at hh1 <;> first | (cases hh1; done) | skip
      rename_i hch
      simp only [Option.some.injEq] at hh1
      subst hh1
      cases lo with
      | none =>
        simp only [Option.some.injEq, Prod.mk.injEq] at hb
        obtain ⟨rfl, rfl, rfl⟩ := hb
        simp [Instr.sliceBounds, sb _ _ _ _ hch]
      | some l0 =>
        simp only at hb
        split at hb <;> first | (cases hb; done) | skip
        rename_i l1 hl1
        split at hl1 <;> first | (cases hl1; done) | skip
        rename_i hc
        simp only [Option.some.injEq, Prod.mk.injEq] at hb hl1
        obtain ⟨rfl, rfl, rfl⟩ := hb
        subst hl1
        simp [Instr.sliceBounds, sb _ _ _ _ hc, sb _ _ _ _ hch]
  | some m0 =>
    simp only at hb
    split at hb <;> first | (cases hb; done) | skip
    rename_i m1 hm1
    split at hm1 <;> first | (cases hm1; done) | skip
    rename_i hcm
    simp only [Option.some.injEq] at hm1
    subst hm1
    cases hi with
    | none => simp only at hb; cases hb
    | some h0 =>
      simp only at hb
      split at hb <;> first | (cases hb; done) | skip
      rename_i h1 hh1
      split at hh1 <;> first | (cases hh1; done) | skip
      rename_i hch
      simp only [Option.some.injEq] at hh1
      subst hh1
      cases lo with
      | none =>
        simp only [Option.some.injEq, Prod.mk.injEq] at hb
        obtain ⟨rfl, rfl, rfl⟩ := hb
        simp [Instr.sliceBounds, sb _ _ _ _ hch, sb _ _ _ _ hcm]
      | some l0 =>
        simp only at hb
        split at hb <;> first | (cases hb; done) | skip
        rename_i l1 hl1
        split at hl1 <;> first | (cases hl1; done) | skip
        rename_i hc
        simp only [Option.some.injEq, Prod.mk.injEq] at hb hl1
        obtain ⟨rfl, rfl, rfl⟩ := hb
        subst hl1
        simp [Instr.sliceBounds, sb _ _ _ _ hc, sb _ _ _ _ hch, sb _ _ _ _ hcm]

theorem slice_addr (b : Nat × Nat) (o m l sz : Nat) : (if m = l then (⟨b.1, b.2 + o, none⟩ : Addr) else (⟨b.1, b.2 + o, none⟩ : Addr).add (l * sz)) = ⟨b.1, b.2 + (if m = l then o else o + l * sz), none⟩ := by
  split <;> simp [addr_add, Nat.add_assoc]

theorem sliceX_ok {t : TypeId} {x : Operand} {lo hi mx : Option Operand} {v : AV} (hev : ∀ x, (ev x).R ρ β (a.eval x)) (h : sliceX P ev t x lo hi mx = some v) :
    ∃ u, (∀ w', (Instr.sliceAt t (a.eval x) (lo.map a.eval) (hi.map a.eval) (mx.map a.eval)).run P w' = .ok u w') ∧ v.R ρ β u := by
  unfold sliceX at h
  split at h
  · rename_i l0 h0 m0 hl hh hm
    obtain ⟨k1, e1⟩ := bdX_ok hev hl
    obtain ⟨k2, e2⟩ := bdX_ok hev hh
    obtain ⟨k3, e3⟩ := bdX_ok hev hm
    rw [e1, e2, e3]
    split at h
    · rename_i n el r o hu ex
      obtain ⟨b, hb, hv⟩ := arg_of hev ex
      split at h
      · rename_i inf lo1 hi1 mx1 hi hbnd
        obtain rfl := Option.some.inj h
        refine ⟨_, fun w' => ?_, b, hb, rfl⟩
        simp only [Instr.sliceAt, hv, Sem.run_bind, run_underlying hu, Result.andThen_ok, Instr.sureAddr, Sem.run_pure, run_bounds k1 k2 k3 hbnd w', sizeOf, typeInfo, run_program, hi]
        rw [slice_addr]
      · cases h
    · rename_i arr r o hu ex
      obtain ⟨b, hb, hv⟩ := arg_of hev ex
      split at h
      · rename_i n el hua
        split at h
        · rename_i inf lo1 hi1 mx1 hi hbnd
          obtain rfl := Option.some.inj h
          refine ⟨_, fun w' => ?_, b, hb, rfl⟩
          simp only [Instr.sliceAt, Instr.slice, hv, Sem.run_bind, run_underlying hu, run_underlying hua, Result.andThen_ok, asAddr, Sem.run_pure, run_bounds k1 k2 k3 hbnd w', sizeOf, typeInfo, run_program, hi]
          rw [slice_addr]
        · cases h
      · cases h
    · rename_i el r o len cap hu ex
      obtain ⟨b, hb, hv⟩ := arg_of hev ex
      split at h
      · rename_i inf lo1 hi1 mx1 hi hbnd
        obtain rfl := Option.some.inj h
        refine ⟨_, fun w' => ?_, b, hb, rfl⟩
        simp only [Instr.sliceAt, Instr.slice, hv, Sem.run_bind, run_underlying hu, Result.andThen_ok, Sem.run_pure, run_bounds k1 k2 k3 hbnd w', sizeOf, typeInfo, run_program, hi]
        simp only [Option.map_some]
        rw [← slice_addr]
        split <;> rfl
      · cases h
    · rename_i el r o len hu ex
      obtain ⟨b, cap, hb, hv, hle⟩ := arg_of hev ex
      have run : ∀ (l h m : Nat) inf, P.info? el = some inf → bndX len cap l0 h0 m0 = some (l, h, m) → ∀ w', (Instr.sliceAt t (a.eval x) (l0.map fun i => Value.int (k1 i) i) (h0.map fun i => Value.int (k2 i) i) (m0.map fun i => Value.int (k3 i) i)).run P w' =
          .ok (.slice (some ⟨b.1, b.2 + (if m = l then o else o + l * inf.size), none⟩) (h - l) (m - l)) w' := fun l h m inf hi hbnd w' => by
        simp only [Instr.sliceAt, Instr.slice, hv, Sem.run_bind, run_underlying hu, Result.andThen_ok, Sem.run_pure, run_bounds k1 k2 k3 hbnd w', sizeOf, typeInfo, run_program, hi]
        simp only [Option.map_some]
        rw [← slice_addr]
        split <;> rfl
      split at h
      · rename_i inf l1 h1 hi
        split at h
        · rename_i hc
          obtain rfl := Option.some.inj h
          have hbn : bndX len cap (some l1) (some h1) none = some (l1.toNat, h1.toNat, cap) := by
            unfold bndX
            simp only
            rw [if_pos (by omega)]
            simp only
            rw [if_pos (by omega)]
          refine ⟨_, run _ _ _ inf hi hbn, b, cap - l1.toNat, hb, ?_, ?_⟩
          · rw [if_neg (by omega)]
          · omega
        · cases h
      · rename_i inf l1 hi
        split at h
        · rename_i hc
          obtain rfl := Option.some.inj h
          have hbn : bndX len cap (some l1) none none = some (l1.toNat, len, cap) := by
            unfold bndX
            simp only
            rw [if_pos (by omega)]
          refine ⟨_, run _ _ _ inf hi hbn, b, cap - l1.toNat, hb, ?_, ?_⟩
          · rw [if_neg (by omega)]
          · omega
        · cases h
      · rename_i inf h1 hi
        split at h
        · rename_i hc
          obtain rfl := Option.some.inj h
          have hbn : bndX len cap none (some h1) none = some (0, h1.toNat, cap) := by
            unfold bndX
            simp only
            rw [if_pos (by omega)]
          refine ⟨_, run _ _ _ inf hi hbn, b, cap, hb, ?_, ?_⟩
          · simp
          · omega
        · cases h
      · rename_i inf hi
        obtain rfl := Option.some.inj h
        have hbn : bndX len cap none none none = some (0, len, cap) := rfl
        refine ⟨_, run _ _ _ inf hi hbn, b, cap, hb, ?_, hle⟩
        simp
      · cases h
    · cases h
  · cases h

theorem run_equal_in {t tx : TypeId} {ms : Array (String × TypeId)} (hu : P.underlying t = some (.interface ms)) (v : Value) (n : Nat) (w' : World) :
    (Op.equalIn (n + 1) t (.iface tx v) .nilIface).run P w' = .ok false w' ∧ (Op.equalIn (n + 1) t .nilIface (.iface tx v)).run P w' = .ok false w' ∧ (Op.equalIn (n + 1) t .nilIface .nilIface).run P w' = .ok true w' := by
  refine ⟨?_, ?_, ?_⟩ <;> simp [Op.equalIn, run_underlying hu]

theorem ok_iface {o : Oper} {op : BinOp} {t u : TypeId} {x y : Operand} {ms : Array (String × TypeId)} {sx sy : Sc} {b : Bool} (ho : o.op = .binOp op t x y u) (hu : P.underlying t = some (.interface ms))
    (hx : sx.R ρ β (a.eval x)) (hy : sy.R ρ β (a.eval y)) (hb : ifaceX op x y sx sy = some b) (w' : World) : (execOp a.eval o).run P w' = .ok (.value (.bool b)) w' := by
  have q := fun tx v => run_equal_in (tx := tx) hu v 9999 w'
  have e1 : ∀ tx v, (Op.equal t (.iface tx v) .nilIface).run P w' = .ok false w' := fun tx v => (q tx v).1
  have e2 : ∀ tx v, (Op.equal t .nilIface (.iface tx v)).run P w' = .ok false w' := fun tx v => (q tx v).2.1
  have e3 : (Op.equal t .nilIface .nilIface).run P w' = .ok true w' := (q 0 .nilIface).2.2
  clear q
  unfold ifaceX at hb
  split at hb
  · rename_i tx c
    obtain ⟨v, hv, _⟩ := hx
    have hy' : a.eval y = .nilIface := hy
    cases op <;> simp at hb <;> subst hb <;> simp [execOp, ho, hv, hy', eqGuard, binOp, e1]
  · rename_i tx c
    obtain ⟨v, hv, _⟩ := hy
    have hx' : a.eval x = .nilIface := hx
    cases op <;> simp at hb <;> subst hb <;> simp [execOp, ho, hv, hx', eqGuard, binOp, e2]
  · have hx' : a.eval x = .nilIface := hx
    have hy' : a.eval y = .nilIface := hy
    have gd : (∃ v, x = .const v) ∨ (∃ v, y = .const v) → (op = .eql ∨ op = .neq) → (eqGuard op t x y .nilIface .nilIface).run P w' = .ok () w' := by
      rintro (⟨v, rfl⟩ | ⟨v, rfl⟩) (rfl | rfl) <;> simp [eqGuard]
    have fin : (∃ v, x = .const v) ∨ (∃ v, y = .const v) → (op = .eql ∧ b = true ∨ op = .neq ∧ b = false) → (execOp a.eval o).run P w' = .ok (.value (.bool b)) w' := by
      rintro hc (⟨rfl, rfl⟩ | ⟨rfl, rfl⟩)
      · simp only [execOp, ho, hx', hy', binOp, Sem.run_bind, Sem.run_pure, gd hc (.inl rfl), Result.andThen_ok, e3]
      · simp only [execOp, ho, hx', hy', binOp, Sem.run_bind, Sem.run_pure, gd hc (.inr rfl), Result.andThen_ok, e3]
        rfl
    split at hb <;> first | (cases hb; done) | skip
    · exact fin (.inl ⟨_, rfl⟩) (.inl ⟨rfl, (Option.some.inj hb).symm⟩)
    · exact fin (.inl ⟨_, rfl⟩) (.inr ⟨rfl, (Option.some.inj hb).symm⟩)
    · exact fin (.inr ⟨_, rfl⟩) (.inl ⟨rfl, (Option.some.inj hb).symm⟩)
    · exact fin (.inr ⟨_, rfl⟩) (.inr ⟨rfl, (Option.some.inj hb).symm⟩)
  · cases hb

theorem ok_boolRun {o : Oper} {op : BinOp} {t u : TypeId} {x y : Operand} {p q : Bool} (ho : o.op = .binOp op t x y u) (hu : P.underlying t = some .bool)
    (hx : a.eval x = .bool p) (hy : a.eval y = .bool q) (w' : World) : (op = .eql → (execOp a.eval o).run P w' = .ok (.value (.bool (p == q))) w') ∧ (op = .neq → (execOp a.eval o).run P w' = .ok (.value (.bool (p != q))) w') := by
  have q1 : ∀ n, (Op.equalIn (n + 1) t (.bool p) (.bool q)).run P w' = .ok (p == q) w' := fun n => by simp [Op.equalIn, run_underlying hu]
  have e1 : (Op.equal t (.bool p) (.bool q)).run P w' = .ok (p == q) w' := q1 9999
  clear q1
  constructor
  · rintro rfl
    simp [execOp, ho, hx, hy, eqGuard, binOp, e1]
  · rintro rfl
    simp [execOp, ho, hx, hy, eqGuard, binOp, e1]
    cases p <;> cases q <;> rfl
theorem ok_boolEq {rels : Nat → RelSpec} {w : World} {dst : Option Tmp} {type : TypeId} {pos : String} {after : Array Edge} {guard : Option (Nat × Bool)} {op : BinOp} {t u : TypeId} {x y : Operand} {sx sy : Sc} {r : RdRes} (hu : P.underlying t = some .bool)
    (hx : sx.R ρ β (a.eval x)) (hy : sy.R ρ β (a.eval y)) (h : boolEq op sx sy = some r) : RdOk P rels ρ β w ⟨dst, .binOp op t x y u, type, pos, after, guard⟩ a r := by
  unfold boolEq at h
  split at h
  · rename_i p q
    split at h <;> first | (cases h; done) | skip
    · obtain rfl := Option.some.inj h
      exact RdOk.pure_ _ (fun w' => (ok_boolRun rfl hu hx hy w').1 rfl) rfl
    · obtain rfl := Option.some.inj h
      exact RdOk.pure_ _ (fun w' => (ok_boolRun rfl hu hx hy w').2 rfl) rfl
  · rename_i i b
    obtain ⟨n, hn, hv⟩ := hx
    split at h <;> first | (cases h; done) | skip
    all_goals obtain rfl := Option.some.inj h
    · exact RdOk.pure_ (.bool (n != 0)) (fun w' => by rw [(ok_boolRun rfl hu hv hy w').1 rfl]; simp) ⟨n, hn, rfl⟩
    · exact RdOk.pure_ (.bool (n != 0)) (fun w' => by rw [(ok_boolRun rfl hu hv hy w').2 rfl]; simp) ⟨n, hn, rfl⟩
    · refine RdOk.ins1 (if n = 0 then 1 else 0) (.bool !(n != 0)) (fun K hK => hK _ (by rw [getD_of hn])) rfl (fun w' => by rw [(ok_boolRun rfl hu hv hy w').1 rfl]; simp) ⟨_, last1 _ _, ?_⟩
      by_cases h0 : n = 0 <;> simp [h0]
    · refine RdOk.ins1 (if n = 0 then 1 else 0) (.bool !(n != 0)) (fun K hK => hK _ (by rw [getD_of hn])) rfl (fun w' => by rw [(ok_boolRun rfl hu hv hy w').2 rfl]; simp) ⟨_, last1 _ _, ?_⟩
      by_cases h0 : n = 0 <;> simp [h0]
  · rename_i b i
    obtain ⟨n, hn, hv⟩ := hy
    split at h <;> first | (cases h; done) | skip
    all_goals obtain rfl := Option.some.inj h
    · exact RdOk.pure_ (.bool (n != 0)) (fun w' => by rw [(ok_boolRun rfl hu hx hv w').1 rfl]; simp) ⟨n, hn, rfl⟩
    · exact RdOk.pure_ (.bool (n != 0)) (fun w' => by rw [(ok_boolRun rfl hu hx hv w').2 rfl]; simp) ⟨n, hn, rfl⟩
    · refine RdOk.ins1 (if n = 0 then 1 else 0) (.bool !(n != 0)) (fun K hK => hK _ (by rw [getD_of hn])) rfl (fun w' => by rw [(ok_boolRun rfl hu hx hv w').1 rfl]; simp) ⟨_, last1 _ _, ?_⟩
      by_cases h0 : n = 0 <;> simp [h0]
    · refine RdOk.ins1 (if n = 0 then 1 else 0) (.bool !(n != 0)) (fun K hK => hK _ (by rw [getD_of hn])) rfl (fun w' => by rw [(ok_boolRun rfl hu hx hv w').2 rfl]; simp) ⟨_, last1 _ _, ?_⟩
      by_cases h0 : n = 0 <;> simp [h0]
  · cases h

theorem ok_sliceNil {o : Oper} {op : BinOp} {t u el : TypeId} {x y : Operand} {sx sy : Sc} {b : Bool} (ho : o.op = .binOp op t x y u) (hu : P.underlying t = some (.slice el))
    (hx : sx.R ρ β (a.eval x)) (hy : sy.R ρ β (a.eval y)) (hb : sliceNilX op sx sy = some b) (w' : World) : (execOp a.eval o).run P w' = .ok (.value (.bool b)) w' := by
  have q1 : ∀ ad l c n, (Op.equalIn (n + 1) t (.slice (some ad) l c) (.slice none 0 0)).run P w' = .ok false w' := fun ad l c n => by simp [Op.equalIn, run_underlying hu]
  have q2 : ∀ n, (Op.equalIn (n + 1) t (.slice none 0 0) (.slice none 0 0)).run P w' = .ok true w' := fun n => by simp [Op.equalIn, run_underlying hu]
  have e1 : ∀ ad l c, (Op.equal t (.slice (some ad) l c) (.slice none 0 0)).run P w' = .ok false w' := fun ad l c => q1 ad l c 9999
  have e2 : (Op.equal t (.slice none 0 0) (.slice none 0 0)).run P w' = .ok true w' := q2 9999
  clear q1 q2
  unfold sliceNilX at hb
  split at hb
  · obtain ⟨bb, _, hv⟩ := hx
    have hy' : a.eval y = .slice none 0 0 := hy
    cases op <;> simp at hb <;> subst hb <;> simp [execOp, ho, hv, hy', eqGuard, binOp, e1]
  · obtain ⟨bb, cap, _, hv, _⟩ := hx
    have hy' : a.eval y = .slice none 0 0 := hy
    cases op <;> simp at hb <;> subst hb <;> simp [execOp, ho, hv, hy', eqGuard, binOp, e1]
  · obtain ⟨bb, n, ad, cap, _, _, hv, _⟩ := hx
    have hy' : a.eval y = .slice none 0 0 := hy
    cases op <;> simp at hb <;> subst hb <;> simp [execOp, ho, hv, hy', eqGuard, binOp, e1]
  · have hx' : a.eval x = .slice none 0 0 := hx
    have hy' : a.eval y = .slice none 0 0 := hy
    cases op <;> simp at hb <;> subst hb <;> simp [execOp, ho, hx', hy', eqGuard, binOp, e2]
  · cases hb

theorem ok_len {o : Oper} {t : TypeId} {ts : List TypeId} {x : Operand} {xs : List Operand} {n : Int} (ho : o.op = .call { callee := .builtin .len, args := ⟨x :: xs⟩, argTypes := ⟨t :: ts⟩ }) (hR : (ev x).R ρ β (a.eval x)) (h : lenX P t (ev x) = some n) (w' : World) :
    (execOp a.eval o).run P w' = .ok (.value (.int .i64 n)) w' ∧ Fits .i64 n := by
  unfold lenX at h
  split at h
  · rename_i r oo l c he
    rw [he] at hR
    obtain ⟨b, hb, hv⟩ := hR
    split at h
    · rename_i el hu
      split at h
      · rename_i hle
        obtain rfl := Option.some.inj h
        refine ⟨?_, by simp only [Fits, kmin, kmax]; omega⟩
        simp [execOp, ho, resolve, invoke, builtin, Builtin.len_, hv, run_underlying hu, goInt]
      · cases h
    · cases h
  · rename_i r oo l he
    rw [he] at hR
    obtain ⟨b, cap, hb, hv, _⟩ := hR
    split at h
    · rename_i el hu
      split at h
      · rename_i hle
        obtain rfl := Option.some.inj h
        refine ⟨?_, by simp only [Fits, kmin, kmax]; omega⟩
        simp [execOp, ho, resolve, invoke, builtin, Builtin.len_, hv, run_underlying hu, goInt]
      · cases h
    · cases h
  · rename_i he
    rw [he] at hR
    have hv : a.eval x = .slice none 0 0 := hR
    split at h
    · rename_i el hu
      obtain rfl := Option.some.inj h
      refine ⟨?_, by simp only [Fits, kmin, kmax]; omega⟩
      simp [execOp, ho, resolve, invoke, builtin, Builtin.len_, hv, run_underlying hu, goInt]
    · cases h
  · rename_i s he
    rw [he] at hR
    have hv : a.eval x = .string s := hR
    split at h
    · rename_i hu
      split at h
      · rename_i hle
        obtain rfl := Option.some.inj h
        refine ⟨?_, by simp only [Fits, kmin, kmax]; omega⟩
        simp [execOp, ho, resolve, invoke, builtin, Builtin.len_, hv, run_underlying hu, goInt]
      · cases h
    · cases h
  · cases h

theorem ok_lenV {o : Oper} {t : TypeId} {ts : List TypeId} {x : Operand} {xs : List Operand} {i : Nat} (ho : o.op = .call { callee := .builtin .len, args := ⟨x :: xs⟩, argTypes := ⟨t :: ts⟩ }) (hR : (ev x).R ρ β (a.eval x)) (h : lenVX P t (ev x) = some i) :
    ∃ n : Nat, (∀ w', (execOp a.eval o).run P w' = .ok (.value (.int .i64 n)) w') ∧ ρ[i]? = some (n : Int) ∧ Fits .i64 n := by
  unfold lenVX at h
  split at h
  · rename_i j he
    rw [he] at hR
    obtain ⟨n, p, cap, hn, hv, hf⟩ := hR
    split at h
    · rename_i el hu
      obtain rfl := Option.some.inj h
      exact ⟨n, fun w' => by simp [execOp, ho, resolve, invoke, builtin, Builtin.len_, hv, run_underlying hu, goInt], hn, hf⟩
    · cases h
  · rename_i r' j he
    rw [he] at hR
    obtain ⟨b, n, ad, cap, hb, hn, hv, _, hf⟩ := hR
    split at h
    · rename_i el hu
      obtain rfl := Option.some.inj h
      exact ⟨n, fun w' => by simp [execOp, ho, resolve, invoke, builtin, Builtin.len_, hv, run_underlying hu, goInt], hn, hf⟩
    · cases h
  · cases h

theorem rdX_sound {X : Exts} (hX : ExtOk P X) {o : Oper} {r : RdRes} (hev : ∀ x, (ev x).R ρ β (a.eval x)) (hm : Mem S0 ρ β hp w0 w) (h : rdX P X ev hp o.op = some r) : RdOk P rels ρ β w o a r := by
  obtain ⟨dst, op, type, pos, after, guard⟩ := o
  simp only at h
  cases op <;> simp only [rdX] at h <;> first | (cases h; done) | skip
  case move x => obtain rfl := Option.some.inj h; exact ok_move (.inl rfl) hev
  case assign x => obtain rfl := Option.some.inj h; exact ok_move (.inr rfl) hev
  case nilCheck x =>
    split at h
    · rename_i r o e
      obtain rfl := Option.some.inj h
      exact ok_nilCheck rfl (e ▸ hev x)
    · cases h
  case indexAddr t x i =>
    split at h
    · rename_i len el r o k n hu ex ei
      split at h
      · rename_i inf hi
        split at h
        · rename_i hn
          obtain rfl := Option.some.inj h
          obtain ⟨b, hb, hv⟩ := arg_of hev ex
          obtain ⟨hi', _⟩ := arg_of hev ei
          refine RdOk.pure_ (.pointer (some ⟨b.1, b.2 + o + n.toNat * inf.size, none⟩)) (fun w' => ?_) ⟨b, hb, by simp [Nat.add_assoc]⟩
          simp only [execOp, hv, hi']
          exact run_value (run_indexAt_array hu hi hn.1 hn.2)
        · cases h
      · cases h
    · rename_i el r o len cap k n hu ex ei
      split at h
      · rename_i inf hi
        split at h
        · rename_i hn
          obtain rfl := Option.some.inj h
          obtain ⟨b, hb, hv⟩ := arg_of hev ex
          obtain ⟨hi', _⟩ := arg_of hev ei
          refine RdOk.pure_ (.pointer (some ⟨b.1, b.2 + o + n.toNat * inf.size, none⟩)) (fun w' => ?_) ⟨b, hb, by simp [Nat.add_assoc]⟩
          simp only [execOp, hv, hi']
          exact run_value (run_indexAt_slice hu hi hn.1 hn.2)
        · cases h
      · cases h
    · rename_i el r o len k n hu ex ei
      split at h
      · rename_i inf hi
        split at h
        · rename_i hn
          obtain rfl := Option.some.inj h
          obtain ⟨b, cap, hb, hv, _⟩ := arg_of hev ex
          obtain ⟨hi', _⟩ := arg_of hev ei
          refine RdOk.pure_ (.pointer (some ⟨b.1, b.2 + o + n.toNat * inf.size, none⟩)) (fun w' => ?_) ⟨b, hb, by simp [Nat.add_assoc]⟩
          simp only [execOp, hv, hi']
          exact run_value (run_indexAt_slice hu hi hn.1 hn.2)
        · cases h
      · cases h
    · cases h
  case fieldAddr t x f =>
    split at h
    · rename_i fs r o hu ex
      split at h
      · rename_i fl hf
        split at h
        · rename_i inf hi
          split at h
          · cases h
          · rename_i hz
            obtain rfl := Option.some.inj h
            obtain ⟨b, hb, hv⟩ := arg_of hev ex
            refine RdOk.pure_ (.pointer (some ⟨b.1, b.2 + o + fl.offset, none⟩)) (fun w' => ?_) ⟨b, hb, by simp [Nat.add_assoc]⟩
            simp only [execOp, hv]
            exact run_value (run_fieldAt hu hf hi hz)
        · cases h
      · cases h
    · cases h
  case load t x =>
    split at h
    · rename_i d inf r o hu hi ex
      obtain ⟨b, hb, hv⟩ := arg_of hev ex
      split at h
      · rename_i g hg
        split at h
        · rename_i hd
          split at h
          · rename_i hl
            obtain rfl := Option.some.inj h
            obtain ⟨vs, h1, h2, h3⟩ := hm.cells hg hb inf.size o hl
            refine ⟨vs.zipIdx.map fun p => (⟨b.1, b.2 + o + p.2, none⟩, p.1), .agg vs.toArray, ?_, fun e => by simp [isLoad] at e, fun w' hS => ?_, ⟨vs, rfl, h2⟩⟩
            · intro p hp
              simp only [List.mem_map] at hp
              obtain ⟨q, hq, rfl⟩ := hp
              obtain ⟨v, j⟩ := q
              rw [List.mem_zipIdx_iff_getElem?] at hq
              exact h3 j v hq
            · simp only [execOp, hv]
              refine run_value (run_loadAt_agg hu hd hi h1 fun j v e => ?_)
              exact hS (⟨b.1, b.2 + o + j, none⟩, v) (List.mem_map.2 ⟨(v, j), by rw [List.mem_zipIdx_iff_getElem?]; exact e, rfl⟩)
          · cases h
        · rename_i hd
          split at h
          · rename_i c hc
            obtain rfl := Option.some.inj h
            obtain ⟨v, hcell, hR⟩ := hm.cell r g b hg hb o c hc
            refine ⟨[(⟨b.1, b.2 + o, none⟩, v)], v, fun p hp => ?_, fun e => by simp [isLoad] at e, fun w' hS => ?_, hR⟩
            · simp at hp; subst hp; exact hcell
            · simp only [execOp, hv]
              exact run_value (run_loadAt_one hu (by simpa using hd) (hS _ (List.mem_singleton.2 rfl)))
          · cases h
      · cases h
    · cases h
  case extract x i =>
    split at h
    · rename_i vs ex
      split at h
      · rename_i c hc
        obtain rfl := Option.some.inj h
        have := hev x
        rw [ex] at this
        obtain ⟨us, hv, hR⟩ := this
        obtain ⟨u, hu, hRu⟩ := hR.get hc
        refine RdOk.pure_ u (fun w' => ?_) hRu
        simp [execOp, hv, Instr.extract, hu]
      · cases h
    · cases h
  case convert s d x =>
    split at h
    · rename_i ds kd k n hs hd ex
      obtain rfl := Option.some.inj h
      obtain ⟨hv, _⟩ := arg_of hev ex
      refine RdOk.pure_ (.int kd (kd.wrap n)) (fun w' => ?_) ⟨rfl, wrap_fits _ _⟩
      simp only [execOp, hv]
      exact run_value (by simp [convert, run_underlying hs, run_underlying hd, Conv.intToInt])
    · rename_i ds kd ks i hs hd ex
      obtain ⟨n, hn, hv, hf⟩ := arg_of hev ex
      have hrun : ∀ w', (execOp a.eval ⟨dst, .convert s d x, type, pos, after, guard⟩).run P w' = .ok (.value (.int kd (kd.wrap n))) w' := fun w' => by
        simp only [execOp, hv]
        exact run_value (by simp [convert, run_underlying hs, run_underlying hd, Conv.intToInt])
      split at h
      · rename_i hk
        subst hk
        obtain rfl := Option.some.inj h
        exact RdOk.pure_ _ hrun ⟨n, hn, by rw [wrap_of_fits hf], hf⟩
      · obtain rfl := Option.some.inj h
        refine RdOk.ins1 (kd.wrap n) _ (fun K hK => hK _ (by simp only [Src.ev, getD_of hn])) rfl hrun ⟨_, last1 _ _, rfl, wrap_fits _ _⟩
    · cases h
  case binOp op t x y u =>
    split at h
    · rename_i sx sy ex ey
      split at h
      · rename_i k p k' q hx hy
        obtain ⟨vx, fx⟩ := srcK_spec hx (arg_of hev ex)
        obtain ⟨vy, fy⟩ := srcK_spec hy (arg_of hev ey)
        split at h
        · rename_i hc
          split at h
          · rename_i hk
            subst hk
            have hrun : ∀ w', (execOp a.eval ⟨dst, .binOp op t x y u, type, pos, after, guard⟩).run P w' = .ok (.value (.bool (cmpFn op (p.ev ρ) (q.ev ρ)))) w' := ok_binCmp rfl vx vy hc
            split at h
            · obtain rfl := Option.some.inj h
              exact RdOk.pure_ _ hrun rfl
            · obtain rfl := Option.some.inj h
              refine RdOk.ins1 (if cmpFn op (p.ev ρ) (q.ev ρ) = true then 1 else 0) _ (fun K hK => hK _ rfl) rfl hrun ⟨_, last1 _ _, ?_⟩
              cases cmpFn op (p.ev ρ) (q.ev ρ) <;> rfl
          · cases h
        · split at h
          · rename_i hb
            simp only [Bool.and_eq_true, Bool.or_eq_true, beq_iff_eq] at hb
            split at h
            · rename_i m n
              split at h
              · rename_i hp
                obtain rfl := Option.some.inj h
                exact RdOk.pure_ _ (ok_binArith rfl vx vy hb.1 hb.2 (binPreB_spec hp)) ⟨rfl, binFn_fits fx⟩
              · cases h
            · obtain rfl := Option.some.inj h
              exact fun K hK => ⟨[binFn op k (p.ev ρ) (q.ev ρ)], [], _, (Ins.vc_bin hK).2 _ rfl, rfl, holds_nil w, fun _ => rfl, fun w' _ => ok_binArith rfl vx vy hb.1 hb.2 (Ins.vc_bin hK).1 w', ⟨_, last1 _ _, rfl, binFn_fits fx⟩⟩
          · cases h
      · split at h
        · rename_i ms b hu hb
          obtain rfl := Option.some.inj h
          refine RdOk.pure_ (.bool b) (fun w' => ?_) rfl
          exact ok_iface rfl hu (arg_of hev ex) (arg_of hev ey) hb w'
        · rename_i el hu
          split at h
          · rename_i b hb
            obtain rfl := Option.some.inj h
            refine RdOk.pure_ (.bool b) (fun w' => ?_) rfl
            exact ok_sliceNil rfl hu (arg_of hev ex) (arg_of hev ey) hb w'
          · cases h
        · rename_i hu
          exact ok_boolEq hu (arg_of hev ex) (arg_of hev ey) h
        · cases h
    · cases h
  case unOp op t x =>
    split at h
    · rename_i b ex
      split at h
      · rename_i hop
        obtain rfl := Option.some.inj h
        have hv : a.eval x = .bool b := arg_of hev ex
        refine RdOk.pure_ (.bool !b) (fun w' => ?_) rfl
        cases op <;> simp [isNotOp] at hop
        simp [execOp, hv, Op.unary]
      · cases h
    · rename_i i ex
      split at h
      · rename_i hop
        obtain rfl := Option.some.inj h
        obtain ⟨n, hn, hv⟩ := arg_of hev ex
        refine RdOk.ins1 (if n = 0 then 1 else 0) (.bool !(n != 0)) (fun K hK => hK _ (by rw [getD_of hn])) rfl (fun w' => ?_) ⟨_, last1 _ _, ?_⟩
        · cases op <;> simp [isNotOp] at hop
          simp [execOp, hv, Op.unary]
        · by_cases h0 : n = 0 <;> simp [h0]
      · cases h
    · rename_i k n ex
      split at h
      · rename_i hop
        obtain rfl := Option.some.inj h
        obtain ⟨hv, hf⟩ := arg_of hev ex
        refine RdOk.pure_ (.int k (unFn op k n)) (fun w' => ?_) ⟨rfl, unFn_fits hf⟩
        cases op <;> simp [unOk] at hop <;> simp [execOp, hv, Op.unary, unFn, Op.intArith, Op.intBits]
      · cases h
    · rename_i k i ex
      split at h
      · rename_i hop
        obtain rfl := Option.some.inj h
        obtain ⟨n, hn, hv, hf⟩ := arg_of hev ex
        refine RdOk.ins1 (unFn op k n) (.int k (unFn op k n)) (fun K hK => hK _ (by simp only [Src.ev, getD_of hn])) rfl (fun w' => ?_) ⟨_, last1 _ _, rfl, unFn_fits hf⟩
        cases op <;> simp [unOk] at hop <;> simp [execOp, hv, Op.unary, unFn, Op.intArith, Op.intBits]
      · cases h
    · cases h
  case call c =>
    obtain ⟨callee, args, tys⟩ := c
    simp only at h
    split at h
    · exact ok_extern hX rfl hev h
    · obtain ⟨args⟩ := args
      obtain ⟨tys⟩ := tys
      simp only at h
      split at h
      · rename_i t ts x xs
        split at h
        · rename_i i hi
          obtain rfl := Option.some.inj h
          obtain ⟨n, h1, h2, h3⟩ := ok_lenV (o := ⟨dst, .call { callee := .builtin .len, args := ⟨x :: xs⟩, argTypes := ⟨t :: ts⟩ }, type, pos, after, guard⟩) rfl (hev x) hi
          exact RdOk.pure_ (.int .i64 n) h1 ⟨n, h2, rfl, h3⟩
        split at h
        · rename_i n hn
          obtain rfl := Option.some.inj h
          exact RdOk.pure_ _ (fun w' => (ok_len rfl (hev x) hn w').1) ⟨rfl, (ok_len (o := ⟨dst, .call { callee := .builtin .len, args := ⟨x :: xs⟩, argTypes := ⟨t :: ts⟩ }, type, pos, after, guard⟩) rfl (hev x) hn w).2⟩
        · cases h
      · cases h
    · cases h
  case build t parts =>
    split at h
    · rename_i cs hcs
      obtain rfl := Option.some.inj h
      obtain ⟨m, h1, h2⟩ := buildX_ok hev hcs
      refine RdOk.pure_ (.agg m) (fun w' => ?_) ⟨m.toList, by simp, h2⟩
      simp only [execOp]
      exact run_value (h1 w')
    · cases h
  case slice t x lo hi mx =>
    split at h
    · rename_i v hv
      obtain rfl := Option.some.inj h
      obtain ⟨u, h1, h2⟩ := sliceX_ok hev hv
      refine RdOk.pure_ u (fun w' => ?_) h2
      simp only [execOp]
      exact run_value (h1 w')
    · cases h
  case index t x i =>
    split at h
    · rename_i len el cs k n hu ex ei
      split at h
      · rename_i inf d hi hue
        split at h
        · rename_i hc
          split at h
          · rename_i c hcs
            obtain rfl := Option.some.inj h
            have hx := hev x
            rw [ex] at hx
            obtain ⟨us, hv, hR⟩ := hx
            obtain ⟨u, hus, hRu⟩ := hR.get hcs
            obtain ⟨hvi, _⟩ := arg_of hev ei
            refine RdOk.pure_ u (fun w' => ?_) hRu
            have hagg : (isAgg el).run P w' = .ok false w' := by
              have := hc.2.2
              cases d <;> simp [isAggD] at this <;> simp [isAgg, run_underlying hue]
            simp only [execOp, hv, hvi]
            refine run_value ?_
            simp [Instr.index, asIntOf, run_underlying hu, hc.1, hc.2.1, sizeOf, typeInfo, hi, part, hagg, hus]
          · cases h
        · cases h
      · cases h
    · rename_i s k n hu ex ei
      split at h
      · rename_i h0
        split at h
        · rename_i b hb
          obtain rfl := Option.some.inj h
          have hv : a.eval x = .string s := arg_of hev ex
          obtain ⟨hvi, _⟩ := arg_of hev ei
          refine RdOk.pure_ (.int .u8 b.toNat) (fun w' => ?_) ⟨rfl, ?_⟩
          · simp only [execOp, hv, hvi]
            refine run_value ?_
            simp [Instr.index, asIntOf, run_underlying hu, h0, hb]
          · have := b.toNat_lt
            simp only [Fits, kmin, kmax]
            omega
        · cases h
      · cases h
    · cases h
  case field t x f =>
    split at h
    · rename_i fs cs hu ex
      split at h
      · rename_i fl hf
        split at h
        · rename_i d inf hud hi
          have hx := hev x
          rw [ex] at hx
          obtain ⟨us, hv, hR⟩ := hx
          split at h
          · rename_i hd
            split at h
            · rename_i hle
              obtain rfl := Option.some.inj h
              have hagg : ∀ w', (isAgg fl.type).run P w' = .ok true w' := fun w' => by
                cases d <;> simp [isAggD] at hd <;> simp [isAgg, run_underlying hud]
              refine RdOk.pure_ (.agg ((us.drop fl.offset).take inf.size).toArray) (fun w' => ?_) ⟨_, rfl, ?_⟩
              · simp only [execOp, hv]
                refine run_value ?_
                simp [Instr.field, run_underlying hu, hf, asAgg, part, hagg w', sizeOf, typeInfo, hi, List.drop_take]
              · refine All2.of_get (by have := hR.length; simp; omega) fun i p q hp hq => ?_
                rw [List.getElem?_take] at hp hq
                split at hp
                · rename_i hlt
                  rw [if_pos hlt, List.getElem?_drop] at hq
                  rw [List.getElem?_drop] at hp
                  obtain ⟨q', h1, h2⟩ := hR.get hp
                  rw [hq] at h1
                  exact Option.some.inj h1 ▸ h2
                · cases hp
            · cases h
          · rename_i hd
            split at h
            · rename_i c hcs
              obtain rfl := Option.some.inj h
              obtain ⟨u, hus, hRu⟩ := hR.get hcs
              have hagg : ∀ w', (isAgg fl.type).run P w' = .ok false w' := fun w' => by
                cases d <;> simp [isAggD] at hd <;> simp [isAgg, run_underlying hud]
              refine RdOk.pure_ u (fun w' => ?_) hRu
              simp only [execOp, hv]
              refine run_value ?_
              simp [Instr.field, run_underlying hu, hf, asAgg, part, hagg w', hus]
            · cases h
        · cases h
      · cases h
    · cases h
  case sliceToArrayPointer arr x =>
    split at h
    · rename_i n el r o len cap hu ex
      split at h
      · rename_i hle
        obtain rfl := Option.some.inj h
        obtain ⟨b, hb, hv⟩ := arg_of hev ex
        refine RdOk.pure_ (.pointer (some ⟨b.1, b.2 + o, none⟩)) (fun w' => ?_) ⟨b, hb, rfl⟩
        have : ¬ len < n := by omega
        simp [execOp, hv, Instr.arrayAt, run_underlying hu, this]
      · cases h
    · rename_i n el r o len hu ex
      split at h
      · rename_i hle
        obtain rfl := Option.some.inj h
        obtain ⟨b, cap, hb, hv, _⟩ := arg_of hev ex
        refine RdOk.pure_ (.pointer (some ⟨b.1, b.2 + o, none⟩)) (fun w' => ?_) ⟨b, hb, rfl⟩
        have : ¬ len < n := by omega
        simp [execOp, hv, Instr.arrayAt, run_underlying hu, this]
      · cases h
    · cases h
  case makeInterface t x =>
    split at h
    · cases h
    · rename_i d c hne hu ex
      obtain rfl := Option.some.inj h
      refine RdOk.pure_ (.iface t (a.eval x)) (fun w' => ?_) ⟨_, rfl, arg_of hev ex⟩
      simp only [execOp]
      refine run_value ?_
      simp only [Instr.makeInterface, Sem.run_bind, run_underlying hu, Result.andThen_ok]
      cases d <;> first | rfl | exact (hne _ rfl).elim
    · cases h
  case pick c x y =>
    split at h
    · rename_i b ec
      obtain rfl := Option.some.inj h
      have hc : a.eval c = .bool b := arg_of hev ec
      refine RdOk.pure_ (if b then a.eval x else a.eval y) (fun w' => ?_) (by cases b <;> exact hev _)
      cases b <;> simp [execOp, hc, asBool]
    · cases h
end
end Go.Sx

/- The executor. -/
namespace Go.Sx
open Go

def setK {α β : Type} : List α → Nat → α → (List α → β) → β
  | [], _, _, c => c []
  | _ :: l, 0, x, c => c (x :: l)
  | a :: l, n + 1, x, c => setK l n x fun l => c (a :: l)
theorem setK_spec {α β : Type} : ∀ (l : List α) (n : Nat) (x : α) (c : List α → β), setK l n x c = c (l.set n x)
  | [], _, _, _ => rfl
  | _ :: _, 0, _, _ => rfl
  | a :: l, n + 1, x, c => by simp [setK, setK_spec l n x]

def snocK {α β : Type} : List α → α → (List α → β) → β
  | [], x, c => c [x]
  | a :: l, x, c => snocK l x fun l => c (a :: l)
theorem snocK_spec {α β : Type} : ∀ (l : List α) (x : α) (c : List α → β), snocK l x c = c (l ++ [x])
  | [], _, _ => rfl
  | a :: l, x, c => by simp [snocK, snocK_spec l x]

def overK {α β : Type} : List α → Nat → List α → (List α → β) → β
  | l, _, [], c => c l
  | l, i, x :: xs, c => setK l i x fun l => overK l (i + 1) xs c
theorem overK_spec {α β : Type} : ∀ (xs l : List α) (i : Nat) (c : List α → β), overK l i xs c = c (over l i xs)
  | [], _, _, _ => rfl
  | x :: xs, l, i, c => by simp [overK, over, setK_spec, overK_spec xs]

/-- The number as a numeral (or its successor). -/
def forceK {β : Type} (n : Nat) (k : Nat → β) : β :=
  match n with
  | 0 => k 0
  | m + 1 => k (m + 1)
theorem forceK_spec {β : Type} (n : Nat) (k : Nat → β) : forceK n k = k n := by cases n <;> rfl

/-- The same value, its numbers forced. -/
def normK {β : Type} (v : AV) (k : AV → β) : β :=
  match v with
  | .one (.s (.ptr r o)) => forceK r fun r => forceK o fun o => k (.one (.s (.ptr r o)))
  | .one (.s (.slice r o l c)) => forceK r fun r => forceK o fun o => forceK l fun l => forceK c fun c => k (.one (.s (.slice r o l c)))
  | v => k v
theorem normK_spec {β : Type} (v : AV) (k : AV → β) : normK v k = k v := by
  unfold normK
  split <;> simp [forceK_spec]

structure Con where
  id : Nat
  n : Nat
  app : List AV → List Reg → Nat → Option (List Src × List Reg × AV)
  /-- No contract, a question: its relation says of the inputs whether (a number, 0 for no) the next entry of the table is to be taken. -/
  ask : Bool := false

structure Kont where
  nrm : St → Tree
  ret : St → Tree
  ext : Nat → St → Tree

abbrev CallT := FuncId → List AV → St → (AV → St → Tree) → Tree

def newK (st : St) (cs : List Sc) (d : Option Tmp) (mk : Nat → AV) (k : St → Tree) : Tree :=
  forceK st.hp.length fun n => snocK st.hp { cs := cs, rw := true } fun hp => put (.bad 1) { st with hp := hp } d (mk n) k

/-- A new row of cells with what it may hold beyond them unknown; the result a slice. -/
def newS (st : St) (cs : List Sc) (d : Option Tmp) (mk : Nat → AV) (k : St → Tree) : Tree := newK st cs d mk k

def rep {α : Type} (l : List α) : Nat → List α
  | 0 => []
  | n + 1 => l ++ rep l n

/-- A slice that is read: its region, offset, length. -/
def srcX : AV → Option (Nat × Nat × Nat)
  | .one (.s (.slice r o l _)) => some (r, o, l)
  | .one (.s (.sliceU r o l)) => some (r, o, l)
  | _ => none

/-- The first n cells of a slice or string. -/
def firstX (hp : List Reg) (size n : Nat) : AV → Option (List Sc)
  | .one (.s (.slice r o _ _)) => match hp[r]? with
    | some g => if o + n * size ≤ g.cs.length then some ((g.cs.drop o).take (n * size)) else none
    | none => none
  | .one (.s (.sliceU r o _)) => match hp[r]? with
    | some g => if o + n * size ≤ g.cs.length then some ((g.cs.drop o).take (n * size)) else none
    | none => none
  | .one (.s .nils) => if n = 0 then some [] else none
  | _ => none

def lenV : AV → Option Nat
  | .one (.s (.slice _ _ l _)) => some l
  | .one (.s (.sliceU _ _ l)) => some l
  | .one (.s .nils) => some 0
  | _ => none

def storeK (st : St) (r i : Nat) (cs : List Sc) (k : St → Tree) : Tree :=
  match st.hp[r]? with
  | some g => if g.rw && decide (i + cs.length ≤ g.cs.length) && cs.all Sc.known then
      overK g.cs i cs fun cs' => setK st.hp r { g with cs := cs' } fun hp => k { st with hp := hp } else .bad 30
  | none => .bad 31

/-- What lies in a slice that one appends to: its cells, length, capacity. -/
def oldX (hp : List Reg) (size : Nat) (s : AV) : Option (List Sc × Nat × Nat) :=
  match s with
  | .one (.s (.slice _ _ l c)) => match firstX hp size l s with
    | some cs => some (cs, l, c)
    | none => none
  | .one (.s .nils) => some ([], 0, 0)
  | _ => none

/-- 28 behind one: by whether there is room for 28 more. -/
def grow2X (st : St) (inf : TypeInfo) (cs : List Sc) (d : Option Tmp) (k : St → Tree) : Tree :=
  match inf.zero with
  | some z => .both (newK st cs d (fun r => .one (.s (.sliceW r 0 29 29 57))) k) (newK st (cs ++ rep (z.cells.toList.map ofSc) 28) d (fun r => .one (.s (.sliceW r 0 29 57 9223372036854775808))) k)
  | none => .bad 34

def growX (st : St) (inf : TypeInfo) (s : AV) (n : Nat) (new : List Sc) (d : Option Tmp) (k : St → Tree) : Tree :=
  match oldX st.hp inf.size s with
  | some (old, l, c) =>
    if c < l + n ∧ Builtin.nextslicecap (l + n) c * inf.bytes ≤ 281474976710656 ∧ ((l + n : Nat) : Int) ≤ 9223372036854775807 then
      (if l = 1 ∧ n = 28 then grow2X st inf (old ++ new) d k else
      forceK (l + n) fun m => newK st (old ++ new) d (fun r => .one (.s (.sliceU r 0 m))) k) else .bad 33
  | none => .bad 34

/-- Onto a slice of which the capacity is known by bounds alone. -/
def growWX (st : St) (inf : TypeInfo) (r o l lo hi n : Nat) (new : List Sc) (d : Option Tmp) (k : St → Tree) : Tree :=
  if l + n ≤ lo then storeK st r (o + l * inf.size) new fun st => normK (.one (.s (.sliceU r o (l + n)))) fun v => put (.bad 32) st d v k
  else if hi ≤ l + n ∧ hi ≤ 256 ∧ 2 * (l + n) * inf.bytes ≤ 281474976710656 ∧ ((l + n : Nat) : Int) ≤ 9223372036854775807 then
    (match st.hp[r]? with
    | some g => if o + l * inf.size ≤ g.cs.length then forceK (l + n) fun m => newK st ((g.cs.drop o).take (l * inf.size) ++ new) d (fun r => .one (.s (.sliceU r 0 m))) k else .bad 33
    | none => .bad 34) else .bad 35

/-- Behind an empty slice without room, what is there of a number of bytes (at most 2147483647). -/
def appendNX (st : St) (inf : TypeInfo) (s : AV) (rx i : Nat) (d : Option Tmp) (k : St → Tree) : Tree :=
  match s, st.hp[rx]? with
  | .one (.s (.slice _ _ 0 0)), some g => if inf.size = 1 ∧ inf.bytes = 1 ∧ inf.zero.isSome = true ∧ g.bulk = some i then
      forceK st.nv fun b => .ins (.bin .sub .i64 (.c 2147483647) (.v i)) (.ins (.bin .shr .i64 (.c 0) (.v b)) (put (.bad 39) { st with nv := b + 2 } d (.one (.s (.sliceV i))) k)) else .bad 40
  | _, _ => .bad 41

def appendX (P : Program) (st : St) (tys : List TypeId) (args : List AV) (d : Option Tmp) (k : St → Tree) : Tree :=
  match tys, args with
  | [t, t2], [s, x] => match P.underlying t, P.underlying t2 with
    | some (.slice el), some (.slice _) => match P.info? el, lenV x with
      | some inf, none => match x with
        | .one (.s (.sliceN rx i)) => appendNX st inf s rx i d k
        | _ => .bad 37
      | some inf, some n => match firstX st.hp inf.size n x with
        | some new => if new.all Sc.known && inf.zero.isSome then
          match s with
          | .one (.s (.slice r o l c)) =>
            if l + n ≤ c then storeK st r (o + l * inf.size) new fun st => normK (.one (.s (.slice r o (l + n) c))) fun v => put (.bad 32) st d v k
            else growX st inf s n new d k
          | .one (.s .nils) => if n = 0 then put (.bad 32) st d (.one (.s .nils)) k else growX st inf s n new d k
          | .one (.s (.sliceW r o l lo hi)) => growWX st inf r o l lo hi n new d k
          | _ => .bad 35
          else .bad 35
        | none => .bad 36
      | _, _ => .bad 37
    | _, _ => .bad 38
  | _, _ => .bad 39

def copyX (P : Program) (st : St) (tys : List TypeId) (args : List AV) (d : Option Tmp) (k : St → Tree) : Tree :=
  match tys, args with
  | t :: _, [s, x] => match P.underlying t with
    | some (.slice el) => match P.info? el, lenV x, s with
      | some inf, some n, .one (.s (.slice r o l _)) => match firstX st.hp inf.size (min n l) x with
        | some new => if ((min n l : Nat) : Int) ≤ 9223372036854775807 then storeK st r o new fun st => put (.bad 40) st d (.one (.s (.int .i64 (min n l : Nat)))) k else .bad 41
        | none => .bad 41
      | _, _, _ => .bad 42
    | _ => .bad 43
  | _, _ => .bad 44

def bigX (P : Program) (call : CallT) (st : St) (o : Oper) (k : St → Tree) : Tree :=
  match o.op with
  | .alloc t => match P.info? t with
    | some inf => match inf.zero with
      | some z => newK st (z.cells.toList.map ofSc) o.dst (fun n => .one (.s (.ptr n 0))) k
      | none => .bad 2
    | none => .bad 2
  | .box _ x => match cellsOf (evX st.fr x) with
    | some cs => if cs.all Sc.known then newK st cs o.dst (fun n => .one (.s (.ptr n 0))) k else .bad 3
    | none => .bad 3
  | .store t x y => match P.info? t, evX st.fr x, cellsOf (evX st.fr y) with
    | some inf, .one (.s (.ptr r i)), some cs => match st.hp[r]? with
      | some g => if g.rw && decide (i + cs.length ≤ g.cs.length) && cs.all Sc.known && cs.length == inf.size then
          overK g.cs i cs fun cs' => setK st.hp r { g with cs := cs' } fun hp => put (.bad 4) { st with hp := hp } o.dst (.one (.s .und)) k
        else .bad 5
      | none => .bad 6
    | _, _, _ => .bad 7
  | .call c => match c.callee with
    | .value (.func f) => match P.funcs[f]? with
      | some fn => if fn.body.isSome && fn.name != "runtime.NumGoroutine" then call f (c.args.toList.map (evX st.fr)) st fun v st => put (.bad 8) st o.dst v k else .bad 9
      | none => .bad 9
    | .builtin .append => appendX P st c.argTypes.toList (c.args.toList.map (evX st.fr)) o.dst k
    | .builtin .copy => copyX P st c.argTypes.toList (c.args.toList.map (evX st.fr)) o.dst k
    | _ => .bad 9
  | .buildSlice t len parts => match P.underlying t with
    | some (.slice el) => match P.info? el, zeroX P el with
      | some inf, some z => if z.length = inf.size ∧ len * inf.size ≤ 16777216 ∧ inf.size ≠ 0 then
          (match fillX (fun i => some (i * inf.size, inf.size)) (rep z len) (parts.toList.map fun p => (p.1, evX st.fr p.2)) with
          | some cs => forceK len fun len => newK st cs o.dst (fun r => .one (.s (.slice r 0 len len))) k
          | none => .bad 45) else .bad 46
      | _, _ => .bad 47
    | _ => .bad 48
  | .makeSlice t l c => match P.underlying t, evX st.fr l, evX st.fr c with
    | some (.slice el), .one (.s (.int _ l)), .one (.s (.int _ c)) => match P.info? el, zeroX P el with
      | some inf, some z => if z.length = inf.size ∧ inf.size ≠ 0 ∧ 0 ≤ l ∧ l ≤ c ∧ c ≤ 9223372036854775807 ∧ (inf.bytes : Int) * c ≤ 281474976710656 then
          forceK l.toNat fun l => forceK c.toNat fun c => newK st (rep z c) o.dst (fun r => .one (.s (.slice r 0 l c))) k else .bad 49
      | _, _ => .bad 50
    | _, _, _ => .bad 51
  | .range t x => match P.underlying t, evX st.fr x with
    | some .string, .one (.s (.str s)) => forceK st.hp.length fun n => snocK st.hp { cs := [], rw := true, it := some (s, 0) } fun hp => put (.bad 52) { st with hp := hp } o.dst (.one (.s (.ptr n 0))) k
    | _, _ => .bad 53
  | .next it true => match evX st.fr it with
    | .one (.s (.ptr r 0)) => match st.hp[r]? with
      | some g => match g.it with
        | some (s, pos) => if pos < s.size then
            (let d := Utf8.decode s pos
             if kmin .i32 ≤ (d.1 : Int) ∧ (d.1 : Int) ≤ kmax .i32 ∧ (pos : Int) ≤ 9223372036854775807 then
             forceK (pos + d.2) fun p => setK st.hp r { g with it := some (s, p) } fun hp => put (.bad 54) { st with hp := hp } o.dst (.tup [.s (.bool true), .s (.int .i64 pos), .s (.int .i32 d.1)]) k else .bad 57)
          else put (.bad 55) st o.dst (.tup [.s (.bool false)]) k
        | none => .bad 56
      | none => .bad 56
    | _ => .bad 58
  | _ => .bad 10

/-- 0: pure, 1: a load, 2: other. -/
def cls (X : Exts) : Op → Nat
  | .load .. => 1
  | .call c => match c.callee with
    | .value (.func f) => if f = X.add ∨ f = X.sub then 0 else 2
    | .builtin .len => 0
    | _ => 2
  | .alloc _ | .box .. | .store .. | .buildSlice .. | .makeSlice .. | .range .. | .next .. => 2
  | _ => 0

/-- A choice by a bool that is not known. -/
def pickX (ev : Operand → AV) : Op → Option (Nat × AV × AV)
  | .pick c x y => match ev c with
    | .one (.s (.boolv i)) => some (i, ev x, ev y)
    | _ => none
  | _ => none

def stepX (P : Program) (X : Exts) (call : CallT) (st : St) (o : Oper) (k : St → Tree) : Tree :=
  if cls X o.op = 2 then bigX P call st o k
  else match pickX (evX st.fr) o.op with
  | some (i, v, v') => .ite i (put (.bad 59) st o.dst v k) (put (.bad 60) st o.dst v' k)
  | none => match rdX P X (evX st.fr) st.hp o.op with
    | some (.val av) => normK av fun av => put (.bad 11) st o.dst av k
    | some (.ins I mk) => forceK st.nv fun b => .ins I (put (.bad 12) { st with nv := b + I.outs } o.dst (mk b) k)
    | none => .bad 13

def guardX (ops : Array Oper) (st : St) (o : Oper) (step skip : Tree) : Tree :=
  match o.guard with
  | none => step
  | some (j, want) => match (ops[j]?).bind (·.dst) with
    | some d => match st.fr.get d with
      | some (.one (.s (.bool b))) => if b = want then step else skip
      | some (.one (.s (.boolv i))) => .ite i (if want then step else skip) (if want then skip else step)
      | some (.tup []) => skip
      | _ => .bad 14
    | none => .bad 15

/-! ### Orders -/
def depOn (o : Oper) (l : List Nat) : Bool := o.after.any fun e => Region.binds .any e && l.contains e.on
/-- What of the list is bound behind the operations in acc. -/
def desc (ops : Array Oper) : List Nat → List Nat → List Nat
  | [], acc => acc
  | j :: rest, acc => match ops[j]? with
    | some o => if depOn o acc then desc ops rest (j :: acc) else desc ops rest acc
    | none => desc ops rest acc
def isFloat (o : Oper) : Bool := match o.op with
  | .alloc _ => true
  | .buildSlice _ 1 _ => true
  | _ => false
def isSelect : Op → Bool
  | .select .. => true
  | _ => false
def checkRd (ops : Array Oper) (i : Nat) (o : Oper) (rest : List Nat) : Bool :=
  !rest.contains i && !depOn o (i :: rest) &&
  (let D := desc ops rest [i]
   rest.all fun j => D.contains j || match ops[j]? with
     | some oj => o.apart ops oj
     | none => true)
/-- Allocations that nothing binds any more. -/
def floats (ops : Array Oper) (i : Nat) (rest : List Nat) : List Nat := rest.filter fun j => match ops[j]? with
  | some oj => isFloat oj && !depOn oj (i :: rest)
  | none => false
def checkAl (ops : Array Oper) (i : Nat) (o : Oper) (rest : List Nat) : Bool :=
  !rest.contains i && !depOn o (i :: rest) && rest.all fun j => match ops[j]? with
    | some oj => depOn oj (i :: rest) || isFloat oj
    | none => true
def checkX (X : Exts) (ops : Array Oper) (i : Nat) (o : Oper) (rest : List Nat) : Bool :=
  if cls X o.op = 2 then checkAl ops i o rest else checkRd ops i o rest

/-- One pass: what is pure and hangs on nothing that was left goes out. -/
def passX (X : Exts) (ops : Array Oper) : List Nat → (skip acc : List Nat) → List Nat × List Nat
  | [], skip, acc => (skip.reverse, acc)
  | i :: l, skip, acc => match ops[i]? with
    | none => passX X ops l skip acc
    | some o => if cls X o.op = 0 && !depOn o skip then passX X ops l skip (i :: acc) else passX X ops l (i :: skip) acc
def firstLoad (X : Exts) (ops : Array Oper) : List Nat → List Nat → Option Nat
  | [], _ => none
  | i :: l, before => match ops[i]? with
    | none => none
    | some o => if cls X o.op = 1 && !depOn o before then some i else firstLoad X ops l (i :: before)
/-- The first that is no free allocation. -/
def firstBig (ops : Array Oper) (all : List Nat) : List Nat → Nat → Nat
  | [], s => s
  | i :: l, s => match ops[i]? with
    | some o => if isFloat o || depOn o all then firstBig ops all l s else i
    | none => firstBig ops all l s
/-- Pure operations first, then loads, then what writes. -/
def canon (X : Exts) (ops : Array Oper) : Nat → List Nat → List Nat → List Nat
  | 0, _, acc => acc.reverse
  | n + 1, l, acc => match passX X ops l [] acc with
    | ([], acc) => acc.reverse
    | (s :: skip, acc) =>
      let i := (firstLoad X ops (s :: skip) []).getD (firstBig ops (s :: skip) (s :: skip) s)
      canon X ops n ((s :: skip).filter fun j => j != i) (i :: acc)

/-- The same one cell for certain. -/
def Sc.same : Sc → Sc → Bool
  | .bool a, .bool b => a == b
  | .boolv i, .boolv j => i == j
  | .int k n, .int k' n' => k == k' && n == n'
  | .var k i, .var k' i' => k == k' && i == i'
  | .ptr r o, .ptr r' o' => r == r' && o == o'
  | .nilp, .nilp => true
  | .slice r o l c, .slice r' o' l' c' => r == r' && o == o' && l == l' && c == c'
  | .sliceC r o l i, .sliceC r' o' l' i' => r == r' && o == o' && l == l' && i == i'
  | .nils, .nils => true
  | .func f, .func g => f == g
  | .nilIface, .nilIface => true
  | .iface t v, .iface t' v' => t == t' && Sc.same v v'
  | _, _ => false
def sameL : List Sc → List Sc → Bool
  | [], [] => true
  | a :: l, b :: m => Sc.same a b && sameL l m
  | _, _ => false

/-- What has been read of memory, and the operations that are bound behind it. -/
structure Pend where
  D : List Nat
  r : Nat
  o : Nat
  cs : List Sc
def pendOk (hp : List Reg) (ps : List Pend) : Bool := ps.all fun p => match hp[p.r]? with
  | some g => decide (p.o + p.cs.length ≤ g.cs.length) && sameL p.cs ((g.cs.drop p.o).take p.cs.length)
  | none => false
def dropP (ps : List Pend) (i : Nat) : List Pend := ps.filter fun p => !p.D.contains i
/-- What a load reads. -/
def readsX (P : Program) (ev : Operand → AV) (hp : List Reg) : Op → Option (Nat × Nat × List Sc)
  | .load t x => match P.underlying t, P.info? t, ev x with
    | some d, some inf, .one (.s (.ptr r o)) => match hp[r]? with
      | some g => some (r, o, (g.cs.drop o).take (if isAggD d then inf.size else 1))
      | none => none
    | _, _, _ => none
  | _ => none
def pendX (P : Program) (ops : Array Oper) (i : Nat) (rest : List Nat) (st : St) (o : Oper) (ps : List Pend) : List Pend :=
  match readsX P (evX st.fr) st.hp o.op with
  | some (r, q, cs) => ⟨desc ops rest [i], r, q, cs⟩ :: ps
  | none => ps

/-- An operation that is neither pure nor a load, and what follows. -/
def runX (P : Program) (X : Exts) (call : CallT) (ops : Array Oper) (go : List Nat → List Pend → St → (St → Tree) → Tree) (i : Nat) (o : Oper) (l : List Nat) (ps : List Pend) (st : St) (k : St → Tree) : Tree :=
  guardX ops st o (stepX P X call st o fun st => if pendOk st.hp (dropP ps i) then go l (dropP ps i) st k else .bad 61)
    (put (.bad 17) st o.dst (.tup []) fun st => if pendOk st.hp (dropP ps i) then go l (dropP ps i) st k else .bad 62)

/-- Each of the free allocations may be taken now. -/
def altX (P : Program) (X : Exts) (call : CallT) (ops : Array Oper) (go : List Nat → List Pend → St → (St → Tree) → Tree) (l : List Nat) (ps : List Pend) (st : St) (k : St → Tree) : List Nat → Tree → Tree
  | [], t => t
  | f :: fs, t => match ops[f]? with
    | some o => if cls X o.op = 2 then .both (runX P X call ops go f o (l.filter fun j => j != f) ps st k) (altX P X call ops go l ps st k fs t) else .bad 64
    | none => .bad 64

def regX (P : Program) (X : Exts) (call : CallT) (ops : Array Oper) (draw : Bool) : Nat → List Nat → List Pend → St → (St → Tree) → Tree
  | 0, _, _, _, _ => .bad 63
  | _ + 1, [], _, st, k => k st
  | n + 1, i :: rest, ps, st, k => match ops[i]? with
    | none => .bad 16
    | some o =>
      if !draw then guardX ops st o (stepX P X call st o fun st => regX P X call ops draw n rest ps st k) (put (.bad 17) st o.dst (.tup []) fun st => regX P X call ops draw n rest ps st k)
      else if checkX X ops i o rest then
        (if cls X o.op = 2 then altX P X call ops (regX P X call ops draw n) (i :: rest) ps st k (floats ops i rest) (runX P X call ops (regX P X call ops draw n) i o rest ps st k)
        else
          let ps' := pendX P ops i rest st o ps
          guardX ops st o (stepX P X call st o fun st => regX P X call ops draw n rest ps' st k) (put (.bad 17) st o.dst (.tup []) fun st => regX P X call ops draw n rest ps st k))
      else .bad 18

/-- Bound edges lead to operations of the region. -/
def edgesIn (ops : Array Oper) : Bool := ops.all fun o => o.after.all fun e => !Region.binds .any e || decide (e.on < ops.size)

def regionX (P : Program) (X : Exts) (call : CallT) (ops : Array Oper) (draw : Bool) (st : St) (k : St → Tree) : Tree :=
  if draw then
    let c := canon X ops (ops.size + 1) (List.range ops.size) []
    if edgesIn ops && (ops.all fun o => !isSelect o.op) && c.length == ops.size && ((List.range ops.size).all fun i => c.contains i) then regX P X call ops true (ops.size + 1) c [] st k else .bad 19
  else regX P X call ops false (ops.size + 1) (List.range ops.size) [] st k

def codeX (P : Program) (X : Exts) (call : CallT) : Nat → Code → St → Kont → Tree
  | 0, _, _, _ => .bad 20
  | n + 1, c, st, K => match c with
    | .skip => K.nrm st
    | .region _ ops draw => regionX P X call ops draw st K.nrm
    | .seq a b => codeX P X call n a st { K with nrm := fun st => codeX P X call n b st K }
    | .cond c a b => match evX st.fr c with
      | .one (.s (.bool t)) => if t then codeX P X call n a st K else codeX P X call n b st K
      | .one (.s (.boolv i)) => .ite i (codeX P X call n a st K) (codeX P X call n b st K)
      | _ => .bad 21
    | .block id b => codeX P X call n b st { K with ext := fun i st => if i = id then K.nrm st else K.ext i st }
    | .loop b => codeX P X call n b st { K with nrm := fun st => codeX P X call n (.loop b) st K }
    | .exit i => K.ext i st
    | .ret => K.ret st
    | _ => .bad 22

def entryK {β : Type} : List AV → Nat → Tr AV → (Tr AV → β) → β
  | [], _, t, k => k t
  | a :: l, i, t, k => t.setK (i + 1) i a fun t => entryK l (i + 1) t k

def resX (P : Program) (fr : Tr AV) (hp : List Reg) : List ResultVar → Option (List A1)
  | [] => some []
  | .tmp t :: l => match evX fr (.tmp t), resX P fr hp l with
    | .one a, some l => some (a :: l)
    | _, _ => none
  | .cell x t :: l => match rdX P ⟨0, 0⟩ (evX fr) hp (.load t (.tmp x)), resX P fr hp l with
    | some (.val (.one a)), some l => some (a :: l)
    | _, _ => none

/-- A call by a contract. -/
def useX (k : AV → St → Tree) (st : St) (b : Nat) (con : Con) (r : List Src × List Reg × AV) : Tree := .ins (.call con.id r.1 con.n) (k r.2.2 { st with hp := r.2.1, nv := b + con.n })
/-- The first contract of f that fits the caller's state; a question parts the way. -/
def tabX (f : FuncId) (args : List AV) (k : AV → St → Tree) (inl : St → Tree) : List (FuncId × Con) → St → Tree
  | [], st => inl st
  | [(g, c)], st => if g = f then (match c.app args st.hp st.nv with
      | some r => if c.ask then .bad 70 else useX k st st.nv c r
      | none => inl st) else inl st
  | (g, c) :: (g', c') :: l, st => if g = f then (match c.app args st.hp st.nv with
      | some r => if c.ask then forceK (st.nv + 1) fun b => .ins (.call c.id r.1 1) (.ite st.nv
            (match c'.app args st.hp b with
              | some r' => if g' = f then (if c'.ask then .bad 71 else useX k { st with nv := b } b c' r') else .bad 72
              | none => .bad 73)
            (tabX f args k inl l { st with nv := b }))
          else useX k st st.nv c r
      | none => tabX f args k inl ((g', c') :: l) st) else tabX f args k inl ((g', c') :: l) st

def finX (P : Program) (fn : Func) (st0 : St) (k : AV → St → Tree) (st : St) : Tree :=
  match resX P st.fr st.hp fn.results.toList with
  | some [a] => normK (.one a) fun v => k v { st with fr := st0.fr, nt := st0.nt }
  | some l => k (.tup l) { st with fr := st0.fr, nt := st0.nt }
  | none => .bad 23

/-- A call in place. -/
def inX (P : Program) (X : Exts) (call : CallT) (f : FuncId) (args : List AV) (st : St) (k : AV → St → Tree) : Tree :=
  match P.funcs[f]? with
  | none => .bad 26
  | some fn => match fn.body with
    | none => .bad 27
    | some c =>
      if args.length ≤ fn.ntmps then
        entryK args 0 .e fun t => codeX P X call 100000 c { st with fr := t, nt := fn.ntmps } ⟨finX P fn st k, finX P fn st k, fun _ _ => .bad 28⟩
      else .bad 29

def callX (P : Program) (X : Exts) (tab : List (FuncId × Con)) : Nat → CallT
  | 0, _, _, _, _ => .bad 24
  | n + 1, f, args, st, k => forceK st.nv fun b => tabX f args k (fun st => inX P X (callX P X tab n) f args st k) tab { st with nv := b }

def topX (P : Program) (X : Exts) (tab : List (FuncId × Con)) (f : FuncId) (args : List AV) (hp : List Reg) (nv : Nat) : Tree :=
  callX P X tab 100 f args ⟨.e, 0, hp, nv⟩ fun v st => .fin v st.hp

def Tree.vc (rels : Nat → RelSpec) (Q : Env → AV → List Reg → Prop) : Tree → Env → Prop
  | .bad _, _ => False
  | .fin v hp, ρ => Q ρ v hp
  | .ins I t, ρ => I.vc rels ρ fun outs => t.vc rels Q (ρ ++ outs)
  | .ite i a b, ρ => (ρ.getD i 0 ≠ 0 → a.vc rels Q ρ) ∧ (ρ.getD i 0 = 0 → b.vc rels Q ρ)
  | .both a b, ρ => a.vc rels Q ρ ∧ b.vc rels Q ρ
end Go.Sx

/- The executor is right, part 1: orders, single operations. -/
namespace Go.Sx
open Go

section orders
variable {P : Program} {ops : Array Oper} {Q : Exit → Act → World → Prop}

structure Inv (ops : Array Oper) (listed : Array Bool) (rem : List Nat) : Prop where
  size : listed.size = ops.size
  iff : ∀ j, j < ops.size → (listed.getD j true = false ↔ j ∈ rem)

theorem Inv.unlisted {listed : Array Bool} {rem : List Nat} (h : Inv ops listed rem) {j : Nat} (hj : j ∈ rem) (hs : j < ops.size) : listed.getD j false = false := by
  have := (h.iff j hs).2 hj
  have hl : j < listed.size := by rw [h.size]; exact hs
  simp [Array.getD_eq_getD_getElem?, hl] at this ⊢
  exact this
theorem Inv.listed {listed : Array Bool} {rem : List Nat} (h : Inv ops listed rem) {j : Nat} (hj : j ∉ rem) (hs : j < ops.size) : listed.getD j false = true := by
  have := mt (h.iff j hs).1 hj
  have hl : j < listed.size := by rw [h.size]; exact hs
  simp [Array.getD_eq_getD_getElem?, hl] at this ⊢
  exact this

theorem Inv.step {listed : Array Bool} {i : Nat} {rest : List Nat} (h : Inv ops listed (i :: rest)) (hi : i ∉ rest) : Inv ops (listed.setIfInBounds i true) rest := by
  refine ⟨by simp [h.size], fun j hj => ?_⟩
  by_cases hij : i = j
  · subst hij
    have hl : i < listed.size := by rw [h.size]; exact hj
    simp [Array.getD_eq_getD_getElem?, hl, hi]
  · rw [getD_set_ne true hij, h.iff j hj]
    simp [Ne.symm hij]

theorem depOn_false {o : Oper} {l : List Nat} (h : depOn o l = false) : ∀ e ∈ o.after, Region.binds .any e = true → e.on ∉ l := by
  intro e he hb hl
  have : depOn o l = true := by
    unfold depOn
    rw [Array.any_eq_true']
    exact ⟨e, he, by simp [hb, hl]⟩
  rw [h] at this
  cases this
theorem depOn_true {o : Oper} {l : List Nat} (h : depOn o l = true) : ∃ e ∈ o.after, Region.binds .any e = true ∧ e.on ∈ l := by
  unfold depOn at h
  rw [Array.any_eq_true'] at h
  obtain ⟨e, he, h⟩ := h
  simp only [Bool.and_eq_true, List.contains_iff_mem] at h
  exact ⟨e, he, h.1, h.2⟩

theorem ready_of {listed : Array Bool} {i : Nat} {o : Oper} {rest : List Nat} (h : Inv ops listed (i :: rest)) (ho : ops[i]? = some o) (hd : depOn o (i :: rest) = false) (hE : edgesIn ops = true) :
    i ∈ Region.ready .any ops listed := by
  have hi : i < ops.size := (Array.getElem?_eq_some_iff.1 ho).1
  rw [mem_ready]
  refine ⟨(h.iff i hi).2 (by simp), o, ho, fun e he hb => ?_⟩
  have hon : e.on < ops.size := by
    unfold edgesIn at hE
    have h1 := Array.all_eq_true_iff_forall_mem.1 hE o (Array.mem_of_getElem? ho)
    have h2 := Array.all_eq_true_iff_forall_mem.1 h1 e he
    simpa [hb] using h2
  exact h.listed (depOn_false hd e he hb) hon

/-- D of 'desc': what is in it beyond the start is bound behind something in it. -/
theorem desc_spec (i : Nat) : ∀ (rest acc : List Nat), (∀ j ∈ acc, j ≠ i → ∀ o, ops[j]? = some o → ∃ e ∈ o.after, Region.binds .any e = true ∧ e.on ∈ acc) →
    (∀ j ∈ acc, j ∈ desc ops rest acc) ∧ (∀ j ∈ desc ops rest acc, j ∈ acc ∨ j ∈ rest) ∧ (∀ j ∈ desc ops rest acc, j ≠ i → ∀ o, ops[j]? = some o → ∃ e ∈ o.after, Region.binds .any e = true ∧ e.on ∈ desc ops rest acc)
  | [], acc, h => ⟨fun _ h => h, fun _ h => .inl h, h⟩
  | k :: rest, acc, h => by
    simp only [desc]
    split
    · rename_i o ho
      split
      · rename_i hd
        obtain ⟨e, he, hb, hin⟩ := depOn_true hd
        have ih := desc_spec i rest (k :: acc) (fun j hj hji o' ho' => by
          rcases List.mem_cons.1 hj with rfl | hj
          · rw [ho] at ho'
            obtain rfl := Option.some.inj ho'
            exact ⟨e, he, hb, List.mem_cons_of_mem _ hin⟩
          · obtain ⟨e, he, hb, hin⟩ := h j hj hji o' ho'
            exact ⟨e, he, hb, List.mem_cons_of_mem _ hin⟩)
        refine ⟨fun j hj => ih.1 j (List.mem_cons_of_mem _ hj), fun j hj => ?_, ih.2.2⟩
        rcases ih.2.1 j hj with hj | hj
        · rcases List.mem_cons.1 hj with rfl | hj
          · exact .inr (by simp)
          · exact .inl hj
        · exact .inr (List.mem_cons_of_mem _ hj)
      · have ih := desc_spec i rest acc h
        exact ⟨ih.1, fun j hj => (ih.2.1 j hj).imp id (List.mem_cons_of_mem _), ih.2.2⟩
    · have ih := desc_spec i rest acc h
      exact ⟨ih.1, fun j hj => (ih.2.1 j hj).imp id (List.mem_cons_of_mem _), ih.2.2⟩

/-- One walk along a list of the operations; a free allocation may come at any place. -/
def ordWp (P : Program) (ops : Array Oper) (Q : Exit → Act → World → Prop) : Nat → List Nat → Facts → Act → World → Prop
  | 0, _, _, _, _ => False
  | _ + 1, [], _, a, w => Q .normal a w
  | n + 1, i :: rest, F, a, w => ∃ o, ops[i]? = some o ∧
    ((∃ S v, checkRd ops i o rest = true ∧ Reads P ops o S v a ∧ Holds S w ∧ ordWp P ops Q n rest ((desc ops rest [i], Holds S) :: F) (a.put o.dst v) w) ∨
     (checkAl ops i o rest = true ∧ wpOp P ops Q i (fun a' w' => holdsF (dropF F i) w' ∧ ordWp P ops Q n rest (dropF F i) a' w') a w ∧
      ∀ f ∈ floats ops i rest, wpOp P ops Q f (fun a' w' => holdsF (dropF F f) w' ∧ ordWp P ops Q n ((i :: rest).filter fun j => j != f) (dropF F f) a' w') a w))

theorem Inv.stepF {listed : Array Bool} {f : Nat} {l : List Nat} (h : Inv ops listed l) : Inv ops (listed.setIfInBounds f true) (l.filter fun j => j != f) := by
  refine ⟨by simp [h.size], fun j hj => ?_⟩
  by_cases hij : f = j
  · subst hij
    have hl : f < listed.size := by rw [h.size]; exact hj
    simp [Array.getD_eq_getD_getElem?, hl]
  · rw [getD_set_ne true hij, h.iff j hj]
    simp [Ne.symm hij]
theorem filter_short : ∀ {l : List Nat} {f : Nat}, f ∈ l → (l.filter fun j => j != f).length + 1 ≤ l.length
  | x :: l, f, h => by
    have hle := List.length_filter_le (fun j => j != f) l
    rcases List.mem_cons.1 h with e | e
    · subst e; simp; omega
    · have := filter_short e
      rw [List.filter_cons]
      split <;> simp <;> omega

theorem wpAnyF_done {F : Facts} {listed : Array Bool} {a : Act} {w : World} (h : Region.ready .any ops listed = []) (hq : Q .normal a w) : ∀ fuel, wpAnyF P ops Q fuel F listed a w
  | 0 => ⟨h, hq⟩
  | fuel + 1 => ⟨fun _ => hq, fun i hi => by rw [h] at hi; cases hi⟩

theorem ordWp_any (hsel : ∀ (j : Nat) (o : Oper) cs b, ops[j]? = some o → o.op ≠ .select cs b) (hE : edgesIn ops = true) (hQ : ∀ c a w, ¬ Q (.panic c) a w) :
    ∀ (n : Nat) (rem : List Nat) (fuel : Nat) (F : Facts) (listed : Array Bool) (a : Act) (w : World), rem.length ≤ fuel → Inv ops listed rem → holdsF F w → ordWp P ops Q n rem F a w → wpAnyF P ops Q fuel F listed a w
  | 0, _, _, _, _, _, _, _, _, _, h => h.elim
  | n + 1, [], fuel, F, listed, a, w, _, inv, hF, h => by
    refine wpAnyF_done ?_ h fuel
    rw [List.eq_nil_iff_forall_not_mem]
    intro j hj
    obtain ⟨h0, o, ho, _⟩ := mem_ready.1 hj
    have hs : j < ops.size := (Array.getElem?_eq_some_iff.1 ho).1
    exact absurd ((inv.iff j hs).1 h0) (by simp)
  | n + 1, i :: rest, 0, _, _, _, _, hl, _, _, _ => by simp at hl
  | n + 1, i :: rest, fuel + 1, F, listed, a, w, hl, inv, hF, h => by
    obtain ⟨o, ho, h⟩ := h
    have his : i < ops.size := (Array.getElem?_eq_some_iff.1 ho).1
    have hl' : rest.length ≤ fuel := by simpa using hl
    rcases h with ⟨S, v, hc, hy, hH, hk⟩ | ⟨hc, hk, hfl⟩
    · simp only [checkRd, Bool.and_eq_true, Bool.not_eq_true', List.all_eq_true, Bool.or_eq_true] at hc
      obtain ⟨⟨hni, hd⟩, hall⟩ := hc
      have hni : i ∉ rest := by simpa using hni
      have hr := ready_of inv ho hd hE
      have hds := desc_spec (ops := ops) i rest [i] (fun j hj hji => by simp at hj; exact absurd hj hji)
      have inv' := inv.step hni
      have hF' : holdsF ((desc ops rest [i], Holds S) :: F) w := fun p hp => by
        rcases List.mem_cons.1 hp with rfl | hp
        · exact hH
        · exact hF p hp
      have rec1 := ordWp_any hsel hE hQ n rest fuel _ _ _ _ hl' inv' hF' hk
      have hun : ∀ j, j ∈ desc ops rest [i] → listed.getD j false = false := fun j hj => by
        by_cases hjs : j < ops.size
        · refine inv.unlisted ?_ hjs
          rcases hds.2.1 j hj with h | h
          · simp at h; simp [h]
          · exact List.mem_cons_of_mem _ h
        · have : listed.size ≤ j := by rw [inv.size]; omega
          simp [Array.getD_eq_getD_getElem?, Array.getElem?_eq_none this]
      have hDD : ∀ j oj, ops[j]? = some oj → j ∈ desc ops rest [i] → j ≠ i → ∃ e ∈ oj.after, Region.binds .any e = true ∧ e.on ∈ desc ops rest [i] := fun j oj hoj hj hji => hds.2.2 j hj hji oj hoj
      have hfree : ∀ j oj, ops[j]? = some oj → j ∉ desc ops rest [i] → listed.getD j true = false → o.apart ops oj = true := fun j oj hoj hnD hu => by
        have hjs : j < ops.size := (Array.getElem?_eq_some_iff.1 hoj).1
        have hm := (inv.iff j hjs).1 hu
        rcases List.mem_cons.1 hm with rfl | hm
        · exact absurd (hds.1 j (by simp)) hnD
        · have := hall j hm
          rcases this with h | h
          · exact absurd (by simpa using h) hnD
          · rw [hoj] at h; exact h
      exact wpAnyF_first ho hsel hQ (hds.1 i (by simp)) hDD fuel F listed a w hun hfree hr hH hy hF rec1
    · simp only [checkAl, Bool.and_eq_true, Bool.not_eq_true', List.all_eq_true] at hc
      obtain ⟨⟨hni, hd⟩, hall⟩ := hc
      have hni : i ∉ rest := by simpa using hni
      have hr := ready_of inv ho hd hE
      have inv' := inv.step hni
      refine ⟨fun h => (by rw [h] at hr; cases hr), fun j hj => ?_⟩
      have hji : j = i ∨ j ∈ floats ops i rest := by
        obtain ⟨h0, oj, hoj, hready⟩ := mem_ready.1 hj
        have hjs : j < ops.size := (Array.getElem?_eq_some_iff.1 hoj).1
        rcases List.mem_cons.1 ((inv.iff j hjs).1 h0) with h | h
        · exact .inl h
        · have := hall j h
          rw [hoj] at this
          have hno : depOn oj (i :: rest) = false := by
            cases hdd : depOn oj (i :: rest) with
            | false => rfl
            | true =>
              obtain ⟨e, he, hb, hin⟩ := depOn_true hdd
              have h1 := hready e he hb
              have hon : e.on < ops.size := by
                unfold edgesIn at hE
                have h1 := Array.all_eq_true_iff_forall_mem.1 hE oj (Array.mem_of_getElem? hoj)
                have h2 := Array.all_eq_true_iff_forall_mem.1 h1 e he
                simpa [hb] using h2
              rw [inv.unlisted hin hon] at h1
              cases h1
          refine .inr ?_
          simp only [floats, List.mem_filter]
          refine ⟨h, ?_⟩
          rw [hoj]
          simp only [hno, Bool.false_or, Bool.not_false, Bool.and_true] at this ⊢
          exact this
      rcases hji with rfl | hji
      · exact wpOp_mono (fun a' w' h => ⟨h.1, ordWp_any hsel hE hQ n rest fuel _ _ a' w' hl' inv' h.1 h.2⟩) hk
      · have hm : j ∈ i :: rest := List.mem_cons_of_mem _ (List.mem_filter.1 hji).1
        have hs := filter_short hm
        exact wpOp_mono (fun a' w' h => ⟨h.1, ordWp_any hsel hE hQ n _ fuel _ _ a' w' (by omega) inv.stepF h.1 h.2⟩) (hfl j hji)
end orders
end Go.Sx

/- The executor is right: operations that write, calls. -/
namespace Go.Sx
open Go

section
variable {P : Program} {rels : Nat → RelSpec} {Q0 : Env → AV → List Reg → Prop} {S0 : Old} {w0 : World} {ρb : Env} {βb : Base}

/-- The rest goes through from here. -/
def Post (rels : Nat → RelSpec) (Q0 : Env → AV → List Reg → Prop) (S0 : Old) (w0 : World) (ρb : Env) (βb : Base) (k : St → Tree) (a : Act) (w : World) : Prop :=
  ∃ ρ β st, Ext ρb ρ ∧ Ext βb β ∧ (k st).vc rels Q0 ρ ∧ Rel S0 ρ β w0 st a w

theorem Rel.fr' {ρ : Env} {β : Base} {st : St} {a : Act} {w : World} (h : Rel S0 ρ β w0 st a w) : FrR ρ β st.fr st.nt a := ⟨h.tm, h.fr, h.df⟩

theorem Rel.mk' {ρ : Env} {β : Base} {st : St} {a : Act} {w : World} (h : FrR ρ β st.fr st.nt a) (m : Mem S0 ρ β st.hp w0 w) (n : st.nv = ρ.length) : Rel S0 ρ β w0 st a w :=
  ⟨m, n, h.tm, h.fr, h.df⟩

theorem post_put {ρ : Env} {β : Base} {why : Nat} {st : St} {d : Option Tmp} {v : AV} {u : Value} {k : St → Tree} {a : Act} {w : World} (hρ : Ext ρb ρ) (hβ : Ext βb β)
    (h : (put (.bad why) st d v k).vc rels Q0 ρ) (hr : Rel S0 ρ β w0 st a w) (hR : v.R ρ β u) : Post rels Q0 S0 w0 ρb βb k (a.put d u) w := by
  cases d with
  | none => exact ⟨ρ, β, st, hρ, hβ, h, hr⟩
  | some d =>
    obtain ⟨fr, nt, hp, nv⟩ := st
    cases nt with
    | zero => exact h.elim
    | succ m =>
      simp only [put] at h
      split at h
      · rename_i hd
        obtain ⟨fr', hk, hg⟩ := Tr.setK_spec (d + 1) fr d v (by omega)
        rw [hk] at h
        exact ⟨ρ, β, ⟨fr', m + 1, hp, nv⟩, hρ, hβ, h, Rel.mk' (hr.fr'.put hd hR hg) hr.mem hr.nv⟩
      · exact h.elim

/-- What a call of the executor must be good for. -/
def CallOk (P : Program) (rels : Nat → RelSpec) (Q0 : Env → AV → List Reg → Prop) (S0 : Old) (w0 : World) (call : CallT) : Prop :=
  ∀ f args st k ρ β (vals : List Value) w, (call f args st k).vc rels Q0 ρ → Mem S0 ρ β st.hp w0 w → st.nv = ρ.length → All2 (AV.R ρ β) args vals →
    Calls P f vals.toArray w fun e w' => ∃ v ρ' β' av st', e = .returned v ∧ Ext ρ ρ' ∧ Ext β β' ∧ (k av st').vc rels Q0 ρ' ∧ av.R ρ' β' v ∧ Mem S0 ρ' β' st'.hp w0 w' ∧ st'.nv = ρ'.length ∧ st'.fr = st.fr ∧ st'.nt = st.nt

theorem all2_known {ρ : Env} {β : Base} : ∀ {cs : List Sc} {vs : List Value}, All2 (Sc.R ρ β) cs vs → cs.all Sc.known = true → ∀ v ∈ vs, v.oneCell' = true
  | [], [], _, _, v, hv => by cases hv
  | c :: cs, u :: us, h, hk, v, hv => by
    simp only [List.all_cons, Bool.and_eq_true] at hk
    rcases List.mem_cons.1 hv with rfl | hv
    · exact known_one' hk.1 h.1
    · exact all2_known h.2 hk.2 v hv

theorem post_newM {ρ : Env} {β : Base} {st : St} {d : Option Tmp} {cs : List Sc} {vs : List Value} (more : Array Value) {ty : TypeId} {mk : Nat → AV} {u : Value} {k : St → Tree} {a : Act} {w : World} (hρ : Ext ρb ρ) (hβ : Ext βb β)
    (h : (newK st cs d mk k).vc rels Q0 ρ) (hr : Rel S0 ρ β w0 st a w) (hR : All2 (Sc.R ρ β) cs vs) (hmk : ∀ β' : Base, β'[st.hp.length]? = some (w.heap.size, 0) → (mk st.hp.length).R ρ β' u) :
    Post rels Q0 S0 w0 ρb βb k (a.put d u) { w with heap := w.heap.push (.cells (vs.toArray ++ more) ty) } := by
  simp only [newK, forceK_spec, snocK_spec] at h
  have hx : Ext β (β ++ [(w.heap.size, 0)]) := Ext.app _ _
  have m := hr.mem.pushMore (cs := cs) (vs := vs) more ty (hR.mono fun c v => Sc.R_mono (Ext.refl _) hx c v)
  refine post_put (β := β ++ [(w.heap.size, 0)]) hρ (hβ.trans hx) h (Rel.mk' (hr.fr'.mono (Ext.refl _) hx) m hr.nv) ?_
  exact hmk _ (by simp [hr.mem.len])

theorem post_new {ρ : Env} {β : Base} {st : St} {o : Oper} {cs : List Sc} {vs : List Value} {ty : TypeId} {k : St → Tree} {a : Act} {w : World} (hρ : Ext ρb ρ) (hβ : Ext βb β)
    (h : (newK st cs o.dst (fun n => .one (.s (.ptr n 0))) k).vc rels Q0 ρ) (hr : Rel S0 ρ β w0 st a w) (hR : All2 (Sc.R ρ β) cs vs) :
    Post rels Q0 S0 w0 ρb βb k (a.put o.dst (.pointer (some ⟨w.heap.size, 0, none⟩))) { w with heap := w.heap.push (.cells vs.toArray ty) } := by
  have := post_newM (u := .pointer (some ⟨w.heap.size, 0, none⟩)) #[] (ty := ty) hρ hβ h hr hR fun β' hb => ⟨(w.heap.size, 0), hb, by simp⟩
  simpa using this

/-! ### Rows of one kind -/
theorem rep_get {α : Type} (l : List α) : ∀ (n i : Nat), (rep l n)[i]? = if i < n * l.length then l[i % l.length]? else none
  | 0, i => by simp [rep]
  | n + 1, i => by
    simp only [rep]
    rcases Nat.lt_or_ge i l.length with h | h
    · rw [List.getElem?_append_left h, if_pos (by rw [Nat.add_mul]; omega), Nat.mod_eq_of_lt h]
    · rw [List.getElem?_append_right h, rep_get l n (i - l.length), Nat.mod_eq_sub_mod h]
      congr 1
      rw [Nat.add_mul]
      apply propext
      omega

theorem madeCells_rep (z : Array Value) (n : Nat) : (madeCells z (n * z.size)).toList = rep z.toList n := by
  apply List.ext_getElem?
  intro i
  rw [rep_get]
  simp only [madeCells, Array.toList_map, List.getElem?_map, Array.toList_range, List.getElem?_range']
  by_cases h : i < n * z.size
  · have hz : 0 < z.size := by
      rcases Nat.eq_zero_or_pos z.size with h0 | h0
      · rw [h0] at h; omega
      · exact h0
    have hm := Nat.mod_lt i hz
    simp [h, hm]
  · simp [h]

theorem All2.append' {α β : Type} {R : α → β → Prop} : ∀ {l l' : List α} {m m' : List β}, All2 R l m → All2 R l' m' → All2 R (l ++ l') (m ++ m')
  | [], _, [], _, _, h => h
  | _ :: _, _, _ :: _, _, h, h' => ⟨h.1, h.2.append' h'⟩
  | [], _, _ :: _, _, h, _ => h.elim
  | _ :: _, _, [], _, h, _ => h.elim

theorem All2.rep {α β : Type} {R : α → β → Prop} {l : List α} {m : List β} (h : All2 R l m) : ∀ n, All2 R (rep l n) (rep m n)
  | 0 => trivial
  | n + 1 => h.append' (All2.rep h n)

/-! ### What a slice yields -/
theorem firstX_ok {ρ : Env} {β : Base} {hp : List Reg} {w : World} {size n : Nat} {x : AV} {cs : List Sc} {v : Value} (hm : Mem S0 ρ β hp w0 w) (h : firstX hp size n x = some cs) (hR : x.R ρ β v) :
    ∃ vs : List Value, vs.length = n * size ∧ All2 (Sc.R ρ β) cs vs ∧ (Builtin.firstCells size n v).run P w = .ok vs.toArray w ∧ (Builtin.firstCells size n v).run P w.drew = .ok vs.toArray w.drew := by
  have main : ∀ (r o : Nat) (g : Reg) (b : Nat × Nat) (l c : Nat), hp[r]? = some g → β[r]? = some b → o + n * size ≤ g.cs.length →
      ∃ vs : List Value, vs.length = n * size ∧ All2 (Sc.R ρ β) ((g.cs.drop o).take (n * size)) vs ∧ (Builtin.firstCells size n (.slice (some ⟨b.1, b.2 + o, none⟩) l c)).run P w = .ok vs.toArray w ∧
        (Builtin.firstCells size n (.slice (some ⟨b.1, b.2 + o, none⟩) l c)).run P w.drew = .ok vs.toArray w.drew := fun r o g b l c hg hb hl => by
    obtain ⟨vs, h1, h2, h3⟩ := hm.cells hg hb (n * size) o hl
    exact ⟨vs, h1, h2, run_firstCells_some w size n _ l c vs h1 fun j u e => by rw [addr_add]; exact h3 j u e,
      run_firstCells_some w.drew size n _ l c vs h1 fun j u e => by rw [addr_add]; simpa using h3 j u e⟩
  unfold firstX at h
  split at h
  · split at h
    · rename_i g hg
      split at h
      · rename_i hl
        obtain rfl := Option.some.inj h
        obtain ⟨b, hb, rfl⟩ := hR
        exact main _ _ g b _ _ hg hb hl
      · cases h
    · cases h
  · split at h
    · rename_i g hg
      split at h
      · rename_i hl
        obtain rfl := Option.some.inj h
        obtain ⟨b, cap, hb, rfl, _⟩ := hR
        exact main _ _ g b _ _ hg hb hl
      · cases h
    · cases h
  · split at h
    · rename_i hn
      subst hn
      obtain rfl := Option.some.inj h
      cases hR
      exact ⟨[], by simp, trivial, run_firstCells_none w size 0 0 0, run_firstCells_none w.drew size 0 0 0⟩
    · cases h
  · cases h

theorem lenV_ok {ρ : Env} {β : Base} {x : AV} {n : Nat} {v : Value} (h : lenV x = some n) (hR : x.R ρ β v) (w : World) : (Builtin.lenOf v).run P w = .ok n w := by
  unfold lenV at h
  split at h
  · obtain rfl := Option.some.inj h; obtain ⟨b, _, rfl⟩ := hR; rfl
  · obtain rfl := Option.some.inj h; obtain ⟨b, _, _, rfl, _⟩ := hR; rfl
  · obtain rfl := Option.some.inj h; cases hR; rfl
  · cases h

theorem src_ok {ρ : Env} {β : Base} {hp : List Reg} {w : World} {size n : Nat} {t e : TypeId} {x : AV} {cs : List Sc} {v : Value} (hm : Mem S0 ρ β hp w0 w) (hu : P.underlying t = some (.slice e)) (hn : lenV x = some n)
    (h : firstX hp size n x = some cs) (hk : cs.all Sc.known = true) (hR : x.R ρ β v) : ∃ vs : List Value, Go.Src P size t v n vs w ∧ All2 (Sc.R ρ β) cs vs := by
  obtain ⟨vs, h1, h2, h3, h4⟩ := firstX_ok (P := P) hm h hR
  exact ⟨vs, ⟨.inl ⟨e, hu⟩, fun w' => lenV_ok hn hR w', h3, h4, h1, all2_known h2 hk⟩, h2⟩

/-- Cells of a region are stored. -/
theorem storeK_ok {ρ : Env} {β : Base} {st : St} {r i : Nat} {cs : List Sc} {vs : List Value} {k : St → Tree} {a : Act} {w : World} {b : Nat × Nat} (hr : Rel S0 ρ β w0 st a w) (hb : β[r]? = some b) (hR : All2 (Sc.R ρ β) cs vs)
    (h : (storeK st r i cs k).vc rels Q0 ρ) : (∀ j, j < vs.length → (w.cell? ⟨b.1, b.2 + i + j, none⟩).isSome = true) ∧ (∀ j, j < vs.length → w.frozen? ⟨b.1, b.2 + i + j, none⟩ = false) ∧ (∀ v ∈ vs, v.oneCell' = true) ∧
      ∃ st', st'.hp.length = st.hp.length ∧ (k st').vc rels Q0 ρ ∧ Rel S0 ρ β w0 st' a (w.setCells b.1 (b.2 + i) vs) := by
  unfold storeK at h
  split at h
  · rename_i g hg
    split at h
    · rename_i hcond
      simp only [Bool.and_eq_true, decide_eq_true_eq] at hcond
      obtain ⟨⟨hw, hl⟩, hk⟩ := hcond
      simp only [overK_spec, setK_spec] at h
      have hlen := hR.length
      refine ⟨fun j hj => ?_, fun j hj => ?_, all2_known hR hk, { st with hp := st.hp.set r { g with cs := over g.cs i cs } }, by simp, h, Rel.mk' hr.fr' (Mem.setCells hb cs vs st.hp g w i hr.mem hg hw hl hR) hr.nv⟩
      · have hj' : i + j < g.cs.length := by omega
        obtain ⟨v, h1, _⟩ := hr.mem.cell r g b hg hb (i + j) _ (List.getElem?_eq_getElem hj')
        rw [show b.2 + i + j = b.2 + (i + j) by omega, h1]; rfl
      · have hj' : i + j < g.cs.length := by omega
        have := hr.mem.free r g b hg hb hw (i + j) hj'
        rw [show b.2 + i + j = b.2 + (i + j) by omega]; exact this
    · exact h.elim
  · exact h.elim

theorem run_value' {s : Sem Value} {v : Value} {w w' : World} (h : s.run P w = .ok v w') : (do pure (Next.value (← s)) : Sem Next).run P w = .ok (.value v) w' := by
  simp [h]

theorem run_builtin_append {o : Oper} {args : Array Operand} {tys : Array TypeId} {a : Act} {w w' : World} {v : Value} (ho : o.op = .call { callee := .builtin .append, args := args, argTypes := tys })
    (h : ∀ ty, (Builtin.append_ tys ty (args.map a.eval)).run P w = .ok v w') : (execOp a.eval o).run P w = .ok (.value v) w' := by
  simp [execOp, ho, resolve, invoke, builtin, h]
theorem run_builtin_copy {o : Oper} {args : Array Operand} {tys : Array TypeId} {a : Act} {w w' : World} {v : Value} (ho : o.op = .call { callee := .builtin .copy, args := args, argTypes := tys })
    (h : ∀ ty, (Builtin.copy_ tys ty (args.map a.eval)).run P w = .ok v w') : (execOp a.eval o).run P w = .ok (.value v) w' := by
  simp [execOp, ho, resolve, invoke, builtin, h]

theorem rep_add {α : Type} (l : List α) : ∀ a b, rep l (a + b) = rep l a ++ rep l b
  | 0, b => by simp [rep]
  | a + 1, b => by rw [show a + 1 + b = (a + b) + 1 by omega]; simp [rep, rep_add l a b]
theorem zeroCells_rep (z : Array Value) (n : Nat) : (Builtin.zeroCells z n).toList = rep z.toList n := by
  rw [← madeCells_rep]
  rfl
theorem zeroCells_add (z : Array Value) (a b : Nat) : Builtin.zeroCells z (a + b) = (rep z.toList a).toArray ++ Builtin.zeroCells z b := by
  apply Array.ext'
  rw [zeroCells_rep, rep_add, Array.toList_append, zeroCells_rep]
theorem nextslicecap_le {n c : Nat} (h : c < n) (h2 : c < 256) : Builtin.nextslicecap n c ≤ 2 * n := by
  unfold Builtin.nextslicecap
  split
  · omega
  · omega

theorem growX_ok {ρ : Env} {β : Base} {st : St} {inf : TypeInfo} {s : AV} {n : Nat} {new : List Sc} {d : Option Tmp} {k : St → Tree} {a : Act} {w : World} {t t2 el : TypeId} {vs vx : Value} {news : List Value} {z : Value} (hρ : Ext ρb ρ) (hβ : Ext βb β)
    (h : (growX st inf s n new d k).vc rels Q0 ρ) (hr : Rel S0 ρ β w0 st a w) (hs : s.R ρ β vs) (hu : P.underlying t = some (.slice el)) (hi : P.info? el = some inf) (hz : inf.zero = some z)
    (hsrc : Go.Src P inf.size t2 vx n news w) (hnew : All2 (Sc.R ρ β) new news) :
    ∃ v w', (∀ ty, (Builtin.append_ #[t, t2] ty #[vs, vx]).run P w = .ok v w') ∧ Post rels Q0 S0 w0 ρb βb k (a.put d v) w' := by
  unfold growX at h
  split at h
  · rename_i old l c hold
    split at h
    · rename_i hcond
      obtain ⟨hg, hfit, h63⟩ := hcond
      obtain ⟨base, olds, hvs, hol, holR⟩ : ∃ base olds, vs = .slice base l c ∧ (Builtin.firstCells inf.size l (.slice base l c)).run P w.drew = .ok (List.toArray olds) w.drew ∧ All2 (Sc.R ρ β) old olds := by
        unfold oldX at hold
        split at hold
        · split at hold
          · rename_i r o l' c' cs hcs
            simp only [Option.some.injEq, Prod.mk.injEq] at hold
            obtain ⟨rfl, rfl, rfl⟩ := hold
            obtain ⟨os, _, h2, _, h4⟩ := firstX_ok (P := P) hr.mem hcs hs
            obtain ⟨b, hb, hv⟩ := hs
            exact ⟨_, os, hv, hv ▸ h4, h2⟩
          · cases hold
        · simp only [Option.some.injEq, Prod.mk.injEq] at hold
          obtain ⟨rfl, rfl, rfl⟩ := hold
          exact ⟨none, [], hs, run_firstCells_none _ _ _ _ _, trivial⟩
        · cases hold
      subst hvs
      have hrun := fun ty => run_append_grow_src w t t2 ty el inf z hu hi hz base l c olds hol vx n news hsrc hg h63 hfit
      refine ⟨_, _, hrun, ?_⟩
      have hge := grownCap_ge w (l + n) c el
      split at h
      · rename_i h29
        have h29' : l + n = 29 := by omega
        have hle : grownCap w (l + n) c el < 9223372036854775808 := by
          have := grownCap_le_maxLen w (l + n) c el (by rw [h29']; decide)
          have e : maxLen < 9223372036854775808 := by decide
          omega
        unfold grow2X at h
        rw [hz] at h
        obtain ⟨hA, hB⟩ := h
        rw [h29'] at hge hle ⊢
        rcases Nat.lt_or_ge (grownCap w 29 c el) 57 with hlt | h57
        · exact post_newM (w := w.drew) _ hρ hβ hA (Rel.mk' hr.fr' (hr.mem.drawn _) hr.nv) (holR.append' hnew) fun β' hb => ⟨(w.heap.size, 0), _, hb, by simp, hge, hlt⟩
        · have e : grownCap w 29 c el - 29 = 28 + (grownCap w 29 c el - 57) := by omega
          have hX : (olds ++ news).toArray ++ Builtin.zeroCells z.cells (grownCap w 29 c el - 29) = (olds ++ news ++ rep z.cells.toList 28).toArray ++ Builtin.zeroCells z.cells (grownCap w 29 c el - 57) := by
            rw [e, zeroCells_add]
            apply Array.ext'
            simp [List.append_assoc]
          rw [hX]
          exact post_newM (w := w.drew) _ hρ hβ hB (Rel.mk' hr.fr' (hr.mem.drawn _) hr.nv) ((holR.append' hnew).append' ((all2_ofSc ρ β _).rep 28)) fun β' hb => ⟨(w.heap.size, 0), _, hb, by simp, h57, hle⟩
      · rw [forceK_spec] at h
        exact post_newM (w := w.drew) _ hρ hβ h (Rel.mk' hr.fr' (hr.mem.drawn _) hr.nv) (holR.append' hnew) fun β' hb => ⟨(w.heap.size, 0), _, hb, by simp, hge⟩
    · exact h.elim
  · exact h.elim

theorem growWX_ok {ρ : Env} {β : Base} {st : St} {inf : TypeInfo} {r o l lo hi n : Nat} {new : List Sc} {d : Option Tmp} {k : St → Tree} {a : Act} {w : World} {t t2 el : TypeId} {vs vx : Value} {news : List Value} {z : Value} (hρ : Ext ρb ρ) (hβ : Ext βb β)
    (h : (growWX st inf r o l lo hi n new d k).vc rels Q0 ρ) (hr : Rel S0 ρ β w0 st a w) (hs : (AV.one (.s (.sliceW r o l lo hi))).R ρ β vs) (hu : P.underlying t = some (.slice el)) (hi' : P.info? el = some inf) (hz : inf.zero = some z)
    (hsrc : Go.Src P inf.size t2 vx n news w) (hnew : All2 (Sc.R ρ β) new news) :
    ∃ v w', (∀ ty, (Builtin.append_ #[t, t2] ty #[vs, vx]).run P w = .ok v w') ∧ Post rels Q0 S0 w0 ρb βb k (a.put d v) w' := by
  obtain ⟨b, cap, hb, rfl, hlo, hhi⟩ := hs
  unfold growWX at h
  split at h
  · rename_i hroom
    obtain ⟨h1, h2, h3, st', hlen, h4, h5⟩ := storeK_ok hr hb hnew h
    rw [normK_spec] at h4
    have hrun := fun ty => run_append_room_src (P := P) w t t2 ty el inf hu hi' b.1 (b.2 + o) l cap _ n news hsrc (by omega) (fun j hj => by rw [Nat.add_assoc b.2]; exact h1 j hj) (fun j hj => by rw [Nat.add_assoc b.2]; exact h2 j hj)
    refine ⟨_, _, hrun, ?_⟩
    rw [Nat.add_assoc b.2]
    exact post_put hρ hβ h4 h5 ⟨b, cap, hb, rfl, by omega⟩
  · split at h
    · rename_i hcond
      obtain ⟨c1, c2, c3, c4⟩ := hcond
      split at h
      · rename_i g hg
        split at h
        · rename_i hl
          rw [forceK_spec] at h
          obtain ⟨olds, k1, k2, k3⟩ := hr.mem.cells hg hb (l * inf.size) o hl
          have hfit : Builtin.nextslicecap (l + n) cap * inf.bytes ≤ 281474976710656 := Nat.le_trans (Nat.mul_le_mul_right _ (nextslicecap_le (by omega) (by omega))) c3
          have hold := run_firstCells_some (P := P) w.drew inf.size l ⟨b.1, b.2 + o, none⟩ l cap olds k1 fun j u e => by rw [addr_add]; simpa using k3 j u e
          have hrun := fun ty => run_append_grow_src w t t2 ty el inf z hu hi' hz _ l cap olds hold vx n news hsrc (by omega) c4 hfit
          refine ⟨_, _, hrun, ?_⟩
          have hge := grownCap_ge w (l + n) cap el
          exact post_newM (w := w.drew) _ hρ hβ h (Rel.mk' hr.fr' (hr.mem.drawn _) hr.nv) (k2.append' hnew) fun β' hb => ⟨(w.heap.size, 0), _, hb, by simp, hge⟩
        · exact h.elim
      · exact h.elim
    · exact h.elim

theorem wrap_small {n : Nat} (hf : Fits .i64 (n : Int)) : binFn .sub .i64 2147483647 (n : Int) = 2147483647 - (n : Int) := by
  simp only [Fits, kmin, kmax] at hf
  exact wrap_of_fits (k := .i64) (by simp only [Fits, kmin, kmax]; omega)
theorem appendNX_ok {ρ : Env} {β : Base} {st : St} {inf : TypeInfo} {s : AV} {rx i : Nat} {d : Option Tmp} {k : St → Tree} {a : Act} {w : World} {t t2 el el2 : TypeId} {vs vx : Value} (hρ : Ext ρb ρ) (hβ : Ext βb β)
    (h : (appendNX st inf s rx i d k).vc rels Q0 ρ) (hr : Rel S0 ρ β w0 st a w) (hs : s.R ρ β vs) (hx : (AV.one (.s (.sliceN rx i))).R ρ β vx) (hu : P.underlying t = some (.slice el)) (hu2 : P.underlying t2 = some (.slice el2)) (hi' : P.info? el = some inf) :
    ∃ v w', (∀ ty, (Builtin.append_ #[t, t2] ty #[vs, vx]).run P w = .ok v w') ∧ Post rels Q0 S0 w0 ρb βb k (a.put d v) w' := by
  unfold appendNX at h
  split at h
  · rename_i r o g hg
    split at h
    · rename_i hc
      obtain ⟨h1, h2, h3, h4⟩ := hc
      obtain ⟨z, hz⟩ := Option.isSome_iff_exists.1 h3
      obtain ⟨b0, _, rfl⟩ := hs
      obtain ⟨b, n, ad, cap, hb, hn, rfl, had, hf⟩ := hx
      obtain ⟨n', hn', hcells⟩ := hr.mem.bulk rx g b i hg hb h4
      obtain rfl : n' = n := by
        rw [hn] at hn'
        have := Option.some.inj hn'
        omega
      rw [forceK_spec, hr.nv] at h
      obtain ⟨_, h5⟩ := Ins.vc_bin h
      have h6 := h5 _ rfl
      obtain ⟨h7, h8⟩ := Ins.vc_bin h6
      have h9 := h8 _ rfl
      have hev : (Src.v i).ev ρ = (n' : Int) := by simp [Src.ev, List.getD, hn]
      rw [hev, show (Src.c 2147483647).ev ρ = 2147483647 from rfl, wrap_small hf] at h7
      have hge : (0 : Int) ≤ 2147483647 - (n' : Int) := by
        have := h7.2 rfl
        simpa [Src.ev, List.getD] using this
      clear h5 h6 h7 h8
      have hcell : ∀ j, j < n' → ∃ v, w.cell? ⟨b.1, b.2 + j, none⟩ = some v ∧ v.oneCell' = true := fun j hj => by
        obtain ⟨⟨v, hv, ho⟩, hS⟩ := hcells j hj
        exact ⟨v, by rw [hr.mem.keep.cell (World.block_lt_of_cell? (w := w0) (a := ⟨b.1, b.2 + j, none⟩) hv) hS]; exact hv, ho⟩
      let news := (List.range n').map fun j => (w.cell? ⟨b.1, b.2 + j, none⟩).getD undef
      have hget : ∀ j u, news[j]? = some u → w.cell? ⟨b.1, b.2 + j, none⟩ = some u ∧ u.oneCell' = true := fun j u e => by
        have hlt : j < n' := by
          have := (List.getElem?_eq_some_iff.1 e).1
          simpa [news] using this
        obtain ⟨v, hv, ho⟩ := hcell j hlt
        simp only [news, List.getElem?_map, List.getElem?_range hlt, Option.map_some, hv, Option.getD_some] at e
        obtain rfl := Option.some.inj e
        exact ⟨hv, ho⟩
      have hnl : news.length = n' * inf.size := by simp [news, h1]
      have hsrc : Go.Src P inf.size t2 (.slice (some ad) n' cap) n' news w := Go.Src.ofSlice w hu2 _ n' cap news hnl (fun j u e => by
        have hlt : j < n' := by
          have := (List.getElem?_eq_some_iff.1 e).1
          simpa [news] using this
        rw [had (by omega), addr_add]
        exact (hget j u e).1) (fun u hm => by
        obtain ⟨j, hj⟩ := List.getElem?_of_mem hm
        exact (hget j u hj).2)
      have hx2 : Ext ρ (ρ ++ [binFn .sub .i64 2147483647 (n' : Int)] ++ [binFn .shr .i64 0 (2147483647 - (n' : Int))]) := ⟨_, List.append_assoc _ _ _⟩
      have hvc : (put (.bad 39) { st with nv := ρ.length + 2 } d (.one (.s (.sliceV i))) k).vc rels Q0 (ρ ++ [binFn .sub .i64 2147483647 (n' : Int)] ++ [binFn .shr .i64 0 (2147483647 - (n' : Int))]) := by
        have e : (Src.v ρ.length).ev (ρ ++ [binFn .sub .i64 2147483647 (n' : Int)]) = 2147483647 - (n' : Int) := by
          rw [wrap_small hf]
          simp [Src.ev, List.getD]
        rw [hev] at h9
        rw [show (Src.c 2147483647).ev ρ = 2147483647 from rfl] at h9
        rw [e] at h9
        exact h9
      have done : ∀ (w' : World) (p : Option Addr) (c : Nat), Mem S0 ρ β st.hp w0 w' → Post rels Q0 S0 w0 ρb βb k (a.put d (.slice p n' c)) w' := fun w' p c hM =>
        post_put (st := { st with nv := ρ.length + 2 }) (hρ.trans hx2) hβ hvc (Rel.mk' (hr.fr'.mono hx2 (Ext.refl β)) (hM.mono hx2) (by simp)) ⟨n', p, c, hx2.get hn, rfl, hf⟩
      rcases Nat.eq_zero_or_pos n' with h0 | h0
      · subst h0
        have hnews : news = [] := rfl
        have hrun := fun ty => run_append_room_src (P := P) w t t2 ty el inf hu hi' b0.1 (b0.2 + o) 0 0 _ 0 news hsrc (by omega) (fun j hj => by rw [hnews] at hj; exact absurd hj (Nat.not_lt_zero _)) (fun j hj => by rw [hnews] at hj; exact absurd hj (Nat.not_lt_zero _))
        refine ⟨_, _, hrun, ?_⟩
        exact done w _ _ hr.mem
      · have hold : (Builtin.firstCells inf.size 0 (.slice (some ⟨b0.1, b0.2 + o, none⟩) 0 0)).run P w.drew = .ok (List.toArray []) w.drew := run_firstCells_some w.drew inf.size 0 _ 0 0 [] (by simp) fun j u e => by simp at e
        have hrun := fun ty => run_append_grow_src w t t2 ty el inf z hu hi' hz _ 0 0 [] hold _ n' news hsrc (by omega) (by omega) (by
          rw [h2, Nat.zero_add]
          have : Builtin.nextslicecap n' 0 ≤ 2 * n' := nextslicecap_le h0 (by decide)
          omega)
        refine ⟨_, _, hrun, ?_⟩
        rw [Nat.zero_add]
        exact done _ _ _ ((hr.mem.drawn _).pushFree _)
    · exact h.elim
  · exact h.elim

theorem appendX_ok {ρ : Env} {β : Base} {st : St} {o : Oper} {args : Array Operand} {tys : Array TypeId} {k : St → Tree} {a : Act} {w : World} (ho : o.op = .call { callee := .builtin .append, args := args, argTypes := tys }) (hρ : Ext ρb ρ) (hβ : Ext βb β)
    (h : (appendX P st tys.toList (args.toList.map (evX st.fr)) o.dst k).vc rels Q0 ρ) (hr : Rel S0 ρ β w0 st a w) :
    ∃ v w', (execOp a.eval o).run P w = .ok (.value v) w' ∧ Post rels Q0 S0 w0 ρb βb k (a.put o.dst v) w' := by
  suffices hs : ∃ v w', (∀ ty, (Builtin.append_ tys ty (args.map a.eval)).run P w = .ok v w') ∧ Post rels Q0 S0 w0 ρb βb k (a.put o.dst v) w' by
    obtain ⟨v, w', h1, h2⟩ := hs
    exact ⟨v, w', run_builtin_append ho h1, h2⟩
  obtain ⟨args⟩ := args
  obtain ⟨tys⟩ := tys
  clear ho
  unfold appendX at h
  split at h
  · rename_i t t2 s x htys hargs
    simp only at htys hargs
    subst htys
    match args, hargs with
    | [ps, px], hargs =>
      simp only [List.map_cons, List.map_nil, List.cons.injEq, and_true] at hargs
      obtain ⟨hps, hpx⟩ := hargs
      have hsR := evX_R hr.fr' ps
      have hxR := evX_R hr.fr' px
      rw [hps] at hsR
      rw [hpx] at hxR
      split at h
      · rename_i el el2 hu hu2
        split at h
        · rename_i inf hi hn
          split at h
          · rename_i rx i
            simp only [List.map_toArray, List.map_cons, List.map_nil]
            exact appendNX_ok hρ hβ h hr hsR hxR hu hu2 hi
          · exact h.elim
        · rename_i inf n hi hn
          split at h
          · rename_i new hnew
            split at h
            · rename_i hk
              simp only [Bool.and_eq_true] at hk
              obtain ⟨hk, hz⟩ := hk
              obtain ⟨z, hz⟩ := Option.isSome_iff_exists.1 hz
              obtain ⟨news, hsrc, hnR⟩ := src_ok (P := P) hr.mem hu2 hn hnew hk hxR
              simp only [List.map_toArray, List.map_cons, List.map_nil]
              split at h
              · rename_i r off l c
                split at h
                · rename_i hroom
                  obtain ⟨b, hb, hv⟩ := hsR
                  obtain ⟨h1, h2, h3, st', hlen, h4, h5⟩ := storeK_ok hr hb hnR h
                  rw [normK_spec] at h4
                  have hrun := fun ty => run_append_room_src (P := P) w t t2 ty el inf hu hi b.1 (b.2 + off) l c _ n news hsrc hroom (fun j hj => by rw [Nat.add_assoc b.2]; exact h1 j hj) (fun j hj => by rw [Nat.add_assoc b.2]; exact h2 j hj)
                  refine ⟨_, _, fun ty => by rw [hv]; exact hrun ty, ?_⟩
                  rw [Nat.add_assoc b.2]
                  exact post_put hρ hβ h4 h5 ⟨b, hb, rfl⟩
                · exact growX_ok hρ hβ h hr hsR hu hi hz hsrc hnR
              · split at h
                · rename_i hn0
                  subst hn0
                  have hv : a.eval ps = .slice none 0 0 := hsR
                  have hne : news = [] := List.eq_nil_of_length_eq_zero (by have := hsrc.newsLen; simpa using this)
                  subst hne
                  refine ⟨.slice none 0 0, w, fun ty => ?_, post_put hρ hβ h hr rfl⟩
                  rcases hsrc.kind with ⟨e', hk'⟩ | hk' <;> simp [Builtin.append_, run_underlying hu, run_underlying hk', sizeOf, typeInfo, hi, hsrc.len, hsrc.cells, hv]
                · exact growX_ok hρ hβ h hr hsR hu hi hz hsrc hnR
              · exact growWX_ok hρ hβ h hr hsR hu hi hz hsrc hnR
              · exact h.elim
            · exact h.elim
          · exact h.elim
        · exact h.elim
      · exact h.elim
    | [], hargs => simp at hargs
    | [_], hargs => simp at hargs
    | _ :: _ :: _ :: _, hargs => simp at hargs
  · exact h.elim

theorem copyX_ok {ρ : Env} {β : Base} {st : St} {o : Oper} {args : Array Operand} {tys : Array TypeId} {k : St → Tree} {a : Act} {w : World} (ho : o.op = .call { callee := .builtin .copy, args := args, argTypes := tys }) (hρ : Ext ρb ρ) (hβ : Ext βb β)
    (h : (copyX P st tys.toList (args.toList.map (evX st.fr)) o.dst k).vc rels Q0 ρ) (hr : Rel S0 ρ β w0 st a w) :
    ∃ v w', (execOp a.eval o).run P w = .ok (.value v) w' ∧ Post rels Q0 S0 w0 ρb βb k (a.put o.dst v) w' := by
  suffices hs : ∃ v w', (∀ ty, (Builtin.copy_ tys ty (args.map a.eval)).run P w = .ok v w') ∧ Post rels Q0 S0 w0 ρb βb k (a.put o.dst v) w' by
    obtain ⟨v, w', h1, h2⟩ := hs
    exact ⟨v, w', run_builtin_copy ho h1, h2⟩
  obtain ⟨args⟩ := args
  obtain ⟨tys⟩ := tys
  clear ho
  unfold copyX at h
  split at h
  · rename_i t ts s x htys hargs
    simp only at htys hargs
    subst htys
    match args, hargs with
    | [ps, px], hargs =>
      simp only [List.map_cons, List.map_nil, List.cons.injEq, and_true] at hargs
      obtain ⟨hps, hpx⟩ := hargs
      have hsR := evX_R hr.fr' ps
      have hxR := evX_R hr.fr' px
      rw [hps] at hsR
      rw [hpx] at hxR
      split at h
      · rename_i el hu
        split at h
        · rename_i inf n r off l c hi hn
          split at h
          · rename_i new hnew
            split at h
            · rename_i h63
              obtain ⟨news, k1, k2, k3, _⟩ := firstX_ok (P := P) hr.mem hnew hxR
              obtain ⟨b, hb, hv⟩ := hsR
              obtain ⟨h1, h2, h3, st', hlen, h4, h5⟩ := storeK_ok hr hb k2 h
              have hst := run_storeCells_cells (P := P) b.1 (b.2 + off) news 0 w (by simpa using h1) (by simpa using h2) h3
              simp only [Nat.add_zero] at hst
              refine ⟨.int .i64 ((min n l : Nat) : Int), _, fun ty => ?_, post_put hρ hβ h4 h5 ⟨rfl, by simp only [Fits, kmin, kmax]; omega⟩⟩
              simp only [List.map_toArray, List.map_cons, List.map_nil, hv]
              have hmin : Nat.min n l = min n l := rfl
              simp [Builtin.copy_, run_underlying hu, sizeOf, typeInfo, hi, lenV_ok hn hxR, hmin, k3, hst, goInt]
            · exact h.elim
          · exact h.elim
        · exact h.elim
      · exact h.elim
    | [], hargs => simp at hargs
    | [_], hargs => simp at hargs
    | _ :: _ :: _ :: _, hargs => simp at hargs
  · exact h.elim

theorem bigX_sound {call : CallT} (hcall : CallOk P rels Q0 S0 w0 call) {Q : Exit → Act → World → Prop} {ρ : Env} {β : Base} {st : St} {o : Oper} {k : St → Tree} {a : Act} {w : World} (hρ : Ext ρb ρ) (hβ : Ext βb β)
    (h : (bigX P call st o k).vc rels Q0 ρ) (hr : Rel S0 ρ β w0 st a w) : o.wp P a w (Post rels Q0 S0 w0 ρb βb k) Q := by
  unfold Oper.wp
  unfold bigX at h
  split at h
  · rename_i t ho
    split at h
    · rename_i inf hi
      split at h
      · rename_i z hz
        have hrun : (execOp a.eval o).run P w = .ok (.value (.pointer (some ⟨w.heap.size, 0, none⟩))) { w with heap := w.heap.push (.cells z.cells t) } := by
          simp [execOp, ho, Instr.alloc, zeroValue, typeInfo, hi, hz, newVar, newRow]
        rw [hrun]
        have := post_new (vs := z.cells.toList) (ty := t) hρ hβ h hr (all2_ofSc ρ β _)
        simpa [Oper.upon] using this
      · exact h.elim
    · exact h.elim
  · rename_i t x ho
    split at h
    · rename_i cs hc
      split at h
      · rename_i hk
        have hrun : (execOp a.eval o).run P w = .ok (.value (.pointer (some ⟨w.heap.size, 0, none⟩))) { w with heap := w.heap.push (.cells (a.eval x).cells t) } := by
          simp [execOp, ho, Instr.box, newVar, newRow]
        rw [hrun]
        have := post_new (vs := (a.eval x).cells.toList) (ty := t) hρ hβ h hr (cellsOf_R hc hk (evX_R hr.fr' x))
        simpa [Oper.upon] using this
      · exact h.elim
    · exact h.elim
  · rename_i t x y ho
    split at h
    · rename_i inf r i cs hi ex hc
      split at h
      · rename_i g hg
        split at h
        · rename_i hcond
          simp only [Bool.and_eq_true, decide_eq_true_eq, beq_iff_eq] at hcond
          obtain ⟨⟨⟨hw, hl⟩, hk⟩, hsz⟩ := hcond
          simp only [overK_spec, setK_spec] at h
          have hx := evX_R hr.fr' x
          rw [ex] at hx
          obtain ⟨b, hb, hv⟩ := hx
          have hR := cellsOf_R hc hk (evX_R hr.fr' y)
          have hlen : (a.eval y).cells.size = inf.size := by
            have := hR.length
            simp at this; omega
          have hcell : ∀ j, j < (a.eval y).cells.toList.length → (w.cell? ⟨b.1, b.2 + i + 0 + j, none⟩).isSome = true := fun j hj => by
            have hj' : i + j < g.cs.length := by have := hR.length; omega
            obtain ⟨v, h1, _⟩ := hr.mem.cell r g b hg hb (i + j) _ (List.getElem?_eq_getElem hj')
            rw [show b.2 + i + 0 + j = b.2 + (i + j) by omega, h1]; rfl
          have hfree : ∀ j, j < (a.eval y).cells.toList.length → w.frozen? ⟨b.1, b.2 + i + 0 + j, none⟩ = false := fun j hj => by
            have hj' : i + j < g.cs.length := by have := hR.length; omega
            have := hr.mem.free r g b hg hb hw (i + j) hj'
            rw [show b.2 + i + 0 + j = b.2 + (i + j) by omega]; exact this
          have hst := run_storeCells_cells (P := P) b.1 (b.2 + i) (a.eval y).cells.toList 0 w hcell hfree (all2_known hR hk)
          have hrun : (execOp a.eval o).run P w = .ok .skip (w.setCells b.1 (b.2 + i) (a.eval y).cells.toList) := by
            simp [execOp, ho, Instr.storeAt, Instr.sureAddr, hv, storeVar, sizeOf, typeInfo, hi, hlen, hst]
          rw [hrun]
          have m := Mem.setCells hb cs (a.eval y).cells.toList st.hp g w i hr.mem hg hw hl hR
          refine post_put hρ hβ h (Rel.mk' (st := { st with hp := st.hp.set r { g with cs := over g.cs i cs } }) hr.fr' m hr.nv) trivial
        · exact h.elim
      · exact h.elim
    · exact h.elim
  · rename_i c ho
    obtain ⟨callee, args, tys⟩ := c
    simp only at h
    split at h
    · rename_i f
      split at h
      · rename_i fn hfn
        split at h
        · rename_i hcond
          simp only [Bool.and_eq_true, bne_iff_ne, ne_eq] at hcond
          obtain ⟨cb, hcb⟩ := Option.isSome_iff_exists.1 hcond.1
          have hrun : (execOp a.eval o).run P w = .ok (.enter f (args.map a.eval)) w := by
            rw [run_call ho w]
            simp [callFunc, hfn, hcond.2, hcb]
          rw [hrun]
          have hargs : All2 (AV.R ρ β) (args.toList.map (evX st.fr)) (args.toList.map a.eval) := by
            generalize args.toList = l
            induction l with
            | nil => trivial
            | cons x l ih => exact ⟨evX_R hr.fr' x, ih⟩
          have := hcall f _ st _ ρ β _ w h hr.mem hr.nv hargs
          have harr : (args.toList.map a.eval).toArray = args.map a.eval := by rw [← Array.toList_map]
          rw [harr] at this
          refine this.mono fun e w' he => ?_
          obtain ⟨v, ρ', β', av, st', rfl, h1, h2, h3, h4, h5, h6, h7, h8⟩ := he
          refine post_put (hρ.trans h1) (hβ.trans h2) h3 (Rel.mk' ?_ h5 h6) h4
          rw [h7, h8]
          exact hr.fr'.mono h1 h2
        · exact h.elim
      · exact h.elim
    · obtain ⟨v, w', h1, h2⟩ := appendX_ok ho hρ hβ h hr
      rw [h1]; exact h2
    · obtain ⟨v, w', h1, h2⟩ := copyX_ok ho hρ hβ h hr
      rw [h1]; exact h2
    · exact h.elim
  · rename_i t len parts ho
    split at h
    · rename_i el hu
      split at h
      · rename_i inf z hi hz
        split at h
        · rename_i hcond
          obtain ⟨hzl, hsm, hne⟩ := hcond
          split at h
          · rename_i cs hcs
            rw [forceK_spec] at h
            obtain ⟨inf', zv, hi', hzv, hzR⟩ := zeroX_ok (ρ := ρ) (β := β) hz
            obtain rfl : inf' = inf := by rw [hi] at hi'; exact (Option.some.inj hi').symm
            have hzs : zv.cells.size = inf'.size := by have := hzR.length; simp at this; omega
            have hrows : All2 (Sc.R ρ β) (rep z len) (madeCells zv.cells (len * inf'.size)).toList := by
              rw [← hzs, madeCells_rep]; exact hzR.rep len
            obtain ⟨m, k1, k2⟩ := fillX_ok _ _ _ _ (madeCells zv.cells (len * inf'.size)) (parts_R (evX_R hr.fr') parts.toList) hrows hcs
            have hrun : (execOp a.eval o).run P w = .ok (.value (.slice (some ⟨w.heap.size, 0, none⟩) len len)) { w with heap := w.heap.push (.cells m el) } := by
              have hparts : (parts.map fun (i, x) => (i, a.eval x)).toList = parts.toList.map fun p => (p.1, a.eval p.2) := by simp
              simp only [execOp, ho, Instr.buildSlice, Sem.run_bind, run_underlying hu, sizeOf, typeInfo, run_program, Result.andThen_ok, hi, Sem.run_pure]
              rw [if_neg (by omega)]
              by_cases h0 : len * inf'.size = 0
              · have hm0 : (Array.range (len * inf'.size)).map (fun _ => (default : Value)) = madeCells zv.cells (len * inf'.size) := by rw [h0]; simp [madeCells]
                rw [if_pos h0]
                simp [newRow, hm0, k1]
              · rw [if_neg h0]
                have hmc : (Array.range (len * inf'.size)).map (zv.cells[· % zv.cells.size]!) = madeCells zv.cells (len * inf'.size) := rfl
                simp [zeroValue, typeInfo, hi, hzv, hmc, hparts, k1, newRow]
            rw [hrun]
            have := post_newM (u := .slice (some ⟨w.heap.size, 0, none⟩) len len) #[] (ty := el) hρ hβ h hr k2 fun β' hb => ⟨(w.heap.size, 0), hb, by simp⟩
            simpa [Oper.upon] using this
          · exact h.elim
        · exact h.elim
      · exact h.elim
    · exact h.elim
  · rename_i t l c ho
    split at h
    · rename_i el kl lv kc cv hu hl hc
      split at h
      · rename_i inf z hi hz
        split at h
        · rename_i hcond
          obtain ⟨hzl, hne, h0, hlc, h63, hby⟩ := hcond
          rw [forceK_spec, forceK_spec] at h
          obtain ⟨inf', zv, hi', hzv, hzR⟩ := zeroX_ok (ρ := ρ) (β := β) hz
          obtain rfl : inf' = inf := by rw [hi] at hi'; exact (Option.some.inj hi').symm
          have hzs : zv.cells.size = inf'.size := by have := hzR.length; simp at this; omega
          have hlR := evX_R hr.fr' l
          have hcR := evX_R hr.fr' c
          rw [hl] at hlR
          rw [hc] at hcR
          have hm := run_make (P := P) w t el inf' zv hu hi hzv kl kc lv cv h0 hlc hby h63
          have hrun : (execOp a.eval o).run P w = .ok (.value (.slice (some ⟨w.heap.size, 0, none⟩) lv.toNat cv.toNat)) { w with heap := w.heap.push (.cells (madeCells zv.cells (cv.toNat * inf'.size)) el) } := by
            simp only [execOp, ho, hlR.1, hcR.1]
            exact run_value' hm
          rw [hrun]
          have hrows : All2 (Sc.R ρ β) (rep z cv.toNat) (madeCells zv.cells (cv.toNat * inf'.size)).toList := by
            rw [← hzs, madeCells_rep]; exact hzR.rep _
          have := post_newM (u := .slice (some ⟨w.heap.size, 0, none⟩) lv.toNat cv.toNat) #[] (ty := el) hρ hβ h hr hrows fun β' hb => ⟨(w.heap.size, 0), hb, by simp⟩
          simpa [Oper.upon] using this
        · exact h.elim
      · exact h.elim
    · exact h.elim
  · rename_i t x ho
    split at h
    · rename_i s hu hx
      rw [forceK_spec, snocK_spec] at h
      have hxR := evX_R hr.fr' x
      rw [hx] at hxR
      have hrun : (execOp a.eval o).run P w = .ok (.value (.pointer (some ⟨w.heap.size, 0, none⟩))) { w with heap := w.heap.push (.stringIter s 0) } := by
        simp only [execOp, ho, show a.eval x = .string s from hxR]
        exact run_value' (run_range_string w t s hu)
      rw [hrun]
      have hxx : Ext β (β ++ [(w.heap.size, 0)]) := Ext.app _ _
      have m := hr.mem.pushG { cs := [], rw := true, it := some (s, 0) } (.stringIter s 0) (fun i c hc => by simp at hc) (fun i hi => by simp at hi) (fun s' p' e => by simp at e; obtain ⟨rfl, rfl⟩ := e; rfl) rfl
      exact post_put (β := β ++ [(w.heap.size, 0)]) hρ (hβ.trans hxx) h (Rel.mk' (hr.fr'.mono (Ext.refl _) hxx) m hr.nv) ⟨(w.heap.size, 0), by simp [hr.mem.len], by simp⟩
    · exact h.elim
  · rename_i it ho
    split at h
    · rename_i r hit
      have hiR := evX_R hr.fr' it
      rw [hit] at hiR
      obtain ⟨b, hb, hv⟩ := hiR
      split at h
      · rename_i g hg
        split at h
        · rename_i s pos hgi
          obtain ⟨hobj, _⟩ := hr.mem.iter r g b s pos hg hb hgi
          have hv' : a.eval it = .pointer (some ⟨b.1, 0, none⟩) := by
            obtain ⟨_, _, hb2⟩ := hr.mem.iter r g b s pos hg hb hgi
            rw [hv, hb2]
          split at h
          · rename_i hlt
            simp only at h
            split at h
            · rename_i hfit
              obtain ⟨f1, f2, f3⟩ := hfit
              simp only [forceK_spec, setK_spec] at h
              have hrun : (execOp a.eval o).run P w = .ok (.value (.tuple #[.bool true, .int .i64 pos, .int .i32 (Utf8.decode s pos).1])) { w with heap := w.heap.setIfInBounds b.1 (.stringIter s (pos + (Utf8.decode s pos).2)) } := by
                simp only [execOp, ho, hv']
                refine run_value' ?_
                simp [Instr.next, getObj, setObj, Sem.run_bind, Sem.run, hobj, hlt, goInt]
              rw [hrun]
              exact post_put hρ hβ h (Rel.mk' (st := { st with hp := st.hp.set r { g with it := some (s, pos + (Utf8.decode s pos).2) } }) hr.fr' (hr.mem.step hg hb hgi) hr.nv) ⟨[_, _, _], rfl, rfl, ⟨rfl, by simp only [Fits, kmin, kmax]; omega⟩, ⟨rfl, f1, f2⟩, trivial⟩
            · exact h.elim
          · rename_i hlt
            have hrun : (execOp a.eval o).run P w = .ok (.value (.tuple #[.bool false])) w := by
              simp only [execOp, ho, hv']
              refine run_value' ?_
              simp [Instr.next, getObj, Sem.run_bind, Sem.run, hobj, hlt]
            rw [hrun]
            exact post_put hρ hβ h hr ⟨[_], rfl, rfl, trivial⟩
        · exact h.elim
      · exact h.elim
    · exact h.elim
  · exact h.elim
end
end Go.Sx
