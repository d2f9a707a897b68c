/- The choice out of a table of fifteen points. -/
import Derived.Test.YtkjfcpeabdimmaaBaseAl
set_option linter.unusedVariables false
set_option linter.unusedSimpArgs false
set_option linter.constructorNameAsVariable false
set_option maxRecDepth 100000
set_option maxHeartbeats 4000000
namespace Go.Sx
open Go.Proofs Go.FP Go.EC
def relEq : RelSpec := { pre := fun _ => True, post := fun i o => o = [if nth 0 i 0 = nth 0 i 1 then 1 else 0] }
def far12 : List Int := c0 ++ eOne ++ c0
def tabAt (l : List Int) (k : Nat) : List Int := (l.drop (12 * k)).take 12
def relTab : RelSpec := { pre := fun i => 0 ≤ nth 0 i 0 ∧ nth 0 i 0 < 16, post := fun i o => (nth 0 i 0 = 0 → o = far12) ∧ ∀ k : Nat, k < 15 → nth 0 i 0 = (k : Int) + 1 → o = tabAt (i.drop 1) k }
/-- 150: is a byte another one; 151: the entry of the table. -/
def relsTb (n : Nat) : RelSpec := if n = 150 then relEq else if n = 151 then relTab else relsL n
theorem tabTb_L {t : List (FuncId × Con)} (h0 : (t.all fun x => x.2.id != 150 && x.2.id != 151) = true) (h : ∀ f con, (f, con) ∈ t → ConOk Try.prog relsL f con) : ∀ f con, (f, con) ∈ t → ConOk Try.prog relsTb f con := by
  intro f con hm
  have := List.all_eq_true.1 h0 _ hm
  simp only [Bool.and_eq_true, bne_iff_ne, ne_eq] at this
  exact (h f con hm).lift (by simp [relsTb, this])
def canEq : Can := { id := 150, kinds := [.u8, .u8], args := [v1 .u8 0, v1 .u8 1], hp := [], outs := [.i64], res := v1 .i64 2, hpE := [], new := [] }
theorem eq_cond : Can.condT canEq Try.prog X2 [] relsTb 102 9 = alln 2 fun l => fitsC [.u8, .u8] l ((relsTb 150).pre l → byteK (nth 0 l 0) (nth 0 l 1) ((relsTb 150).post l [1]) ((relsTb 150).post l [0])) := by kernel_rfl
theorem eq_con : ConOk Try.prog relsTb 102 canEq.con := con_of_can (can_of_condT hX2 hm2 (tab := []) (fun f con h => by cases h) 9 (by decide) (by
  rw [eq_cond]
  refine alln_len _ fun l hl => fitsC_intro _ _ fun _ => byteK_of (fun e => ?_) fun e => ?_
  · show [1] = [if nth 0 l 0 = nth 0 l 1 then 1 else 0]
    rw [if_pos e]
  · show [0] = [if nth 0 l 0 = nth 0 l 1 then 1 else 0]
    rw [if_neg e]))
/-- The table's regions: its pointers (from region r on), then the points (numbers from v on). -/
def tabPtrs (r : Nat) : List Sc := (List.range 15).map fun k => .ptr (r + 1 + 4 * k) 0
def tabReg (r k v : Nat) : List Reg := [sp (r + 2 + 4 * k), ro (vs .u64 (v + 12 * k) 4), ro (vs .u64 (v + 12 * k + 4) 4), ro (vs .u64 (v + 12 * k + 8) 4)]
def tabEnd (r k v : Nat) : List (List Sc) := [(sp (r + 2 + 4 * k)).cs, vs .u64 (v + 12 * k) 4, vs .u64 (v + 12 * k + 4) 4, vs .u64 (v + 12 * k + 8) 4]
def canTab : Can := { id := 151, kinds := .u8 :: ks .u64 180, args := [pt 4, pt 0, v1 .u8 0], hp := [sp 1, rw_ (us 4), rw_ (us 4), rw_ (us 4), ro (tabPtrs 4)] ++ ((List.range 15).map fun k => tabReg 4 k 1).flatten, outs := ks .u64 12, res := .tup [], hpE := [(sp 1).cs, vs .u64 181 4, vs .u64 185 4, vs .u64 189 4, tabPtrs 4] ++ ((List.range 15).map fun k => tabEnd 4 k 1).flatten, new := [] }
def tabTS : List (FuncId × Con) := [(102, canEq.con), (85, canSelI.con)]
theorem tabTS_ok : ∀ f con, (f, con) ∈ tabTS → ConOk Try.prog relsTb f con := tabCons eq_con (tabCons (selI_con.lift rfl) (fun f con h => by cases h))
def callB (id n : Nat) (i : List Int) (K : List Int → Prop) : Prop := (relsTb id).pre i ∧ alln n fun o => (relsTb id).post i o → K o
theorem callB_of {id n : Nat} {i : List Int} {K : List Int → Prop} (hp : (relsTb id).pre i) (h : ∀ o : List Int, o.length = n → (relsTb id).post i o → K o) : callB id n i K := ⟨hp, alln_len n h⟩
def geB (x n : Int) (A B : Prop) : Prop := ∀ r : Int, r = (if cmpFn .geq x n = true then 1 else 0) → (r ≠ 0 → A) ∧ (r = 0 → B)
theorem geB_of {x n : Int} {A B : Prop} (h1 : n ≤ x → A) (h0 : ¬ n ≤ x → B) : geB x n A B := by
  intro r er
  have hr := cmp_ite er
  refine ⟨fun h => h1 ?_, fun h => h0 fun e => ?_⟩
  · have := hr.1 h
    simpa [cmpFn] using this
  · exact hr.2 (by simpa [cmpFn] using e) h
/-- One entry. -/
def entVC (l s : List Int) (k : Nat) (K : List Int → Prop) : Prop :=
  callB 150 1 [(k : Int) + 1, nth 0 l 0] (one1 fun c => callB 123 4 (c :: (el4 s 0 ++ el4 (tabAt (l.drop 1) k) 0)) fun x => callB 123 4 (c :: (el4 s 1 ++ el4 (tabAt (l.drop 1) k) 1)) fun y => callB 123 4 (c :: (el4 s 2 ++ el4 (tabAt (l.drop 1) k) 2)) fun z => K (x ++ y ++ z))
def entsVC (l : List Int) (K : List Int → Prop) : Nat → Nat → List Int → Prop
  | 0, _, s => K s
  | n + 1, k, s => entVC l s k fun s' => entsVC l K n (k + 1) s'
theorem tab_cond : Can.condT canTab Try.prog X2 tabTS relsTb 82 20 = alln 181 fun l => fitsC canTab.kinds l ((relsTb 151).pre l → geB (nth 0 l 0) 16 False (entsVC l (fun o => (relsTb 151).post l o) 15 0 far12)) := by kernel_rfl
end Go.Sx

/- The choice out of a table: its law and contract. -/
set_option maxRecDepth 100000
set_option maxHeartbeats 4000000
namespace Go.Sx
open Go.Proofs Go.FP Go.EC
theorem selB0 {a b : List Int} {K : List Int → Prop} (la : a.length = 4) (h : K a) : callB 123 4 (0 :: (a ++ b)) K := by
  refine callB_of (show 0 ≤ (0 : Int) ∧ (0 : Int) ≤ 1 by decide) fun o lo ho => ?_
  obtain ⟨e0, _⟩ : ((0 : Int) = 0 → o = ((0 :: (a ++ b)).drop 1).take 4) ∧ ((0 : Int) = 1 → o = (0 :: (a ++ b)).drop 5) := ho
  have := e0 rfl
  rw [List.drop_succ_cons, List.drop_zero, take_app la] at this
  rw [this]
  exact h
theorem selB1 {a b : List Int} {K : List Int → Prop} (la : a.length = 4) (h : K b) : callB 123 4 (1 :: (a ++ b)) K := by
  refine callB_of (show 0 ≤ (1 : Int) ∧ (1 : Int) ≤ 1 by decide) fun o lo ho => ?_
  obtain ⟨_, e1⟩ : ((1 : Int) = 0 → o = ((1 :: (a ++ b)).drop 1).take 4) ∧ ((1 : Int) = 1 → o = (1 :: (a ++ b)).drop 5) := ho
  have := e1 rfl
  rw [List.drop_succ_cons, drop_app la] at this
  rw [this]
  exact h
theorem el4_join {s : List Int} (h : s.length = 12) : el4 s 0 ++ el4 s 1 ++ el4 s 2 = s := by
  match s, h with
  | [a, b, c, d, e, f, g, h, i, j, k, l], _ => rfl
theorem tabAt_len {l : List Int} {k : Nat} (h : l.length = 180) (hk : k < 15) : (tabAt l k).length = 12 := by
  simp [tabAt]; omega
theorem ent_of {l s : List Int} {k : Nat} {K : List Int → Prop} (hs : s.length = 12) (hk : k < 15) (hl : l.length = 181) (h1 : nth 0 l 0 = (k : Int) + 1 → K (tabAt (l.drop 1) k)) (h0 : nth 0 l 0 ≠ (k : Int) + 1 → K s) : entVC l s k K := by
  have l4 : ∀ j, j < 3 → (el4 s j).length = 4 := fun j hj => by simp [el4]; omega
  refine callB_of trivial fun o lo ho => ?_
  have ho' : o = [if (k : Int) + 1 = nth 0 l 0 then 1 else 0] := ho
  by_cases h : nth 0 l 0 = (k : Int) + 1
  · rw [if_pos h.symm] at ho'
    rw [ho']
    refine selB1 (l4 0 (by decide)) (selB1 (l4 1 (by decide)) (selB1 (l4 2 (by decide)) ?_))
    rw [el4_join (tabAt_len (by simp [hl]) hk)]
    exact h1 h
  · rw [if_neg fun e => h e.symm] at ho'
    rw [ho']
    refine selB0 (l4 0 (by decide)) (selB0 (l4 1 (by decide)) (selB0 (l4 2 (by decide)) ?_))
    rw [el4_join hs]
    exact h0 h
theorem ents_of {l : List Int} {K : List Int → Prop} (hl : l.length = 181) (hK : ∀ o, (nth 0 l 0 = 0 → o = far12) → (∀ j : Nat, j < 15 → nth 0 l 0 = (j : Int) + 1 → o = tabAt (l.drop 1) j) → K o) : ∀ (n k : Nat) (s : List Int), k + n = 15 → s.length = 12 → (nth 0 l 0 = 0 → s = far12) → (∀ j : Nat, j < k → nth 0 l 0 = (j : Int) + 1 → s = tabAt (l.drop 1) j) → entsVC l K n k s
  | 0, k, s, hn, hs, h0, h1 => hK s h0 fun j hj => h1 j (by omega)
  | n + 1, k, s, hn, hs, h0, h1 => ent_of hs (by omega) hl
      (fun e => ents_of hl hK n (k + 1) _ (by omega) (tabAt_len (by simp [hl]) (by omega)) (fun z => by omega) fun j hj ej => by
        have : j = k := by omega
        rw [this])
      (fun e => ents_of hl hK n (k + 1) s (by omega) hs h0 fun j hj ej => h1 j (by
        have : j ≠ k := fun z => e (by rw [ej, z])
        omega) ej)
theorem tab_con : ConOk Try.prog relsTb 82 canTab.con := con_of_can (can_of_condT hX2 hm2 (tab := tabTS) tabTS_ok 20 (by decide) (by
  rw [tab_cond]
  refine alln_len _ fun l hl => fitsC_intro _ _ fun hp => geB_of (fun h => ?_) fun _ => ?_
  · have : nth 0 l 0 < 16 := hp.2
    omega
  · exact ents_of hl (fun o h0 h1 => ⟨h0, h1⟩) 15 0 far12 rfl rfl (fun _ => rfl) fun j hj => absurd hj (Nat.not_lt_zero j)))
end Go.Sx
