/- Row FnP224Associates: pieces. -/
import Derived.Test.YtkjfcpeabdimmaaPtSumW
import Derived.Test.YtkjfcpeabdimmaaBaseMath
set_option linter.unusedVariables false
set_option linter.unusedSimpArgs false
set_option linter.constructorNameAsVariable false
set_option maxRecDepth 100000
set_option maxHeartbeats 4000000
namespace Go.Sx
open Go.Proofs Go.FP Go.EC
/-- The sum of points whose first one has m bytes (1 or 57). -/
def sumL (m : Nat) (i : List Int) (A : Nat → List Int → Prop) : Prop := match m with
  | 1 => sumK 84 80 81 i (A 1) (A 57)
  | _ => sumK 85 82 83 i (A 1) (A 57)
/-- m, k, j: the lengths; c1, c57: the sum's relation by the first point's length; n: how long the total is. -/
def rd1 (m : Nat) (l : List Int) (no yes : Prop) : Prop := match m with
  | 1 => byteK (nth 0 l 0) 0 yes no
  | _ => callD 87 15 l fun o => notK (nth 0 o 14) no yes
theorem rd1_of {m : Nat} {l : List Int} {no yes : Prop} (hm : m = 1 ∨ m = 57) (hl : l.length = m) (h : isEnc l) (h1 : yes) : rd1 m l no yes := by
  rcases hm with rfl | rfl
  · match l, hl with
    | [x], _ =>
      refine byteK_of (fun _ => h1) fun e => ?_
      obtain ⟨P, hP⟩ := h
      match P, hP with
      | none, hP =>
        have : [x] = [0] := hP
        have h2 : x = 0 := by simpa using this
        exact (e h2).elim
      | some (a, b), hP => exact absurd hP.1 (by simp)
  · refine callD_of h fun o lo ho => ?_
    rw [show nth 0 o 14 = 1 from ho.1]
    exact notK_1 h1
def row13VC (m k j c1 c57 n : Nat) (P : List Int → Prop) (l : List Int) : Prop :=
  rd1 m (l.take m) (P [1]) (rd1 k ((l.drop m).take k) (P [1]) (rd1 j (l.drop (m + k)) (P [1])
    (sumL m (l.take m ++ (l.drop m).take k) fun q s => callD (if q = 1 then c1 else c57) n (s ++ l.drop (m + k)) fun u => sumL k ((l.drop m).take k ++ l.drop (m + k)) fun _ t => callD (if m = 1 then c1 else c57) n (l.take m ++ t) fun w => alL P n u w)))
theorem sumL_of {m : Nat} {i : List Int} {A : Nat → List Int → Prop} {P Q : Pt p} (hm : m = 1 ∨ m = 57) (h : bothEnc m i P Q) (hA : ∀ (n : Nat) (o : List Int), (n = 1 ∨ n = 57) → o.length = n → EncB o (asum iv P Q) → A n o) : sumL m i A := by
  rcases hm with rfl | rfl
  · exact sumK_of rfl rfl rfl h (fun o lo ho => hA 1 o (.inl rfl) lo ho) fun o lo ho => hA 57 o (.inr rfl) lo ho
  · exact sumK_of rfl rfl rfl h (fun o lo ho => hA 1 o (.inl rfl) lo ho) fun o lo ho => hA 57 o (.inr rfl) lo ho
theorem both_app {n : Nat} {s d : List Int} {P Q : Pt p} (hs : s.length = n) (h1 : EncB s P) (h2 : EncB d Q) : bothEnc n (s ++ d) P Q := ⟨by rw [take_app hs]; exact h1, by rw [drop_app hs]; exact h2⟩
/-- All totals are as said. -/
def tot (m k : Nat) (q : Pt p → Prop) (i : List Int) : Prop := ∀ A B D, EncB (i.take m) A → EncB ((i.drop m).take k) B → EncB (i.drop (m + k)) D → q (asum iv (asum iv A B) D)
def all3 (m k : Nat) (i : List Int) : Prop := isEnc (i.take m) ∧ isEnc ((i.drop m).take k) ∧ isEnc (i.drop (m + k))
/-- 103, 104: three points, the total is far; it is not; 105: not three points; 122: never called. -/
def relTot (m k : Nat) (q : Pt p → Prop) : RelSpec := { pre := fun i => all3 m k i ∧ tot m k q i, post := postRow }
def relsR5 (m k n : Nat) : RelSpec := if n = 103 then relTot m k (fun S => S = none) else if n = 104 then relTot m k (fun S => S ≠ none) else if n = 105 then { pre := fun i => ¬ all3 m k i, post := postRow } else if n = 122 then { pre := fun _ => False, post := fun _ _ => True } else relsR4 n
def conNever3 : Con := { id := 122, n := 0, app := fun _ hp _ => some ([], hp, .tup []) }
theorem never3_ok {m k : Nat} (f : FuncId) : ConOk Try.prog (relsR5 m k) f conNever3 := by
  refine ⟨fun h => Bool.noConfusion h, fun _ => ?_⟩
  intro S0 w0 ρ β hp w avs vals xs hp' av hM hargs happ hpre
  exact False.elim hpre
def nv3 (m k : Nat) (K : Prop) : Prop := (relsR5 m k 122).pre [] ∧ ((relsR5 m k 122).post [] [] → K)
def never3K (m k : Nat) : Prop := nv3 m k (nv3 m k (nv3 m k (nv3 m k False)))
theorem tabR5_ok (m k : Nat) : ∀ f con, (f, con) ∈ tabR4 → ConOk Try.prog (relsR5 m k) f con := by
  intro f con hm
  have h0 : (tabR4.all fun x => x.2.id != 103 && x.2.id != 104 && x.2.id != 105 && x.2.id != 122) = true := by decide
  have := List.all_eq_true.1 h0 _ hm
  simp only [Bool.and_eq_true, bne_iff_ne, ne_eq] at this
  exact (tabR4_ok f con hm).lift (by simp [relsR5, this.1.1.1, this.1.1.2, this.1.2, this.2])
theorem far5 {m k : Nat} {l : List Int} (h : (relsR5 m k 103).pre l) : all3 m k l ∧ tot m k (fun S => S = none) l := h
theorem fin5 {m k : Nat} {l : List Int} (h : (relsR5 m k 104).pre l) : all3 m k l ∧ tot m k (fun S => S ≠ none) l := h
theorem okRow5 {m k : Nat} {l : List Int} : (relsR5 m k 103).post l [1] := (by decide : (1 : Int) ≠ 0)
theorem okRow6 {m k : Nat} {l : List Int} : (relsR5 m k 104).post l [1] := (by decide : (1 : Int) ≠ 0)
theorem row13_law {m k j c1 c57 n : Nat} {q : Pt p → Prop} {P : List Int → Prop} {l : List Int} (hm : m = 1 ∨ m = 57) (hk : k = 1 ∨ k = 57) (hj : j = 1 ∨ j = 57) (hn : n = 1 ∨ n = 57) (hl : l.length = m + k + j) (t1 : P [1]) (hq' : all3 m k l ∧ tot m k q l)
    (e : ∀ r : Nat, (r = 1 ∨ r = 57) → (relsD (if r = 1 then c1 else c57)).post = postSum r ∧ ∀ i, (∃ A B, bothEnc r i A B ∧ q (asum iv A B)) → (relsD (if r = 1 then c1 else c57)).pre i) : row13VC m k j c1 c57 n P l := by
  have la : (l.take m).length = m := by simp [hl]; omega
  have lb : ((l.drop m).take k).length = k := by simp [hl]; omega
  have ld : (l.drop (m + k)).length = j := by simp [hl]
  obtain ⟨⟨⟨A, hA⟩, ⟨B, hB⟩, ⟨D, hD⟩⟩, hq⟩ := hq'
  refine rd1_of hm la ⟨A, hA⟩ (rd1_of hk lb ⟨B, hB⟩ (rd1_of hj ld ⟨D, hD⟩ ?_))
  have hT := hq A B D hA hB hD
  refine sumL_of hm (both_app la hA hB) fun r s hr ls hs => ?_
  have b2 := both_app ls hs hD
  refine callD_of ((e r hr).2 _ ⟨_, _, b2, hT⟩) fun u lu hu => sumL_of hk (both_app lb hB hD) fun _ t _ _ ht => ?_
  have b4 := both_app la hA ht
  rw [asum_assoc good hA.on hB.on hD.on] at hT
  refine callD_of ((e m hm).2 _ ⟨_, _, b4, hT⟩) fun w lw hw => ?_
  rw [(e r hr).1] at hu
  rw [(e m hm).1] at hw
  have h1 := hu _ _ b2
  have h2 := hw _ _ b4
  rw [asum_assoc good hA.on hB.on hD.on] at h1
  exact alL_of hn lu h1 h2 t1
/-- Where not all three are points. -/
def row13N (m k j : Nat) (P : List Int → Prop) (l : List Int) : Prop := rdK m (l.take m) (P [1]) (rdK k ((l.drop m).take k) (P [1]) (rdK j (l.drop (m + k)) (P [1]) (never3K m k)))
theorem row13N_law {m k j : Nat} {P : List Int → Prop} {l : List Int} (hm : m = 1 ∨ m = 57) (hk : k = 1 ∨ k = 57) (hj : j = 1 ∨ j = 57) (hl : l.length = m + k + j) (t1 : P [1]) (h : ¬ all3 m k l) : row13N m k j P l :=
  rdK_of hm (by simp [hl]; omega) (fun a => rdK_of hk (by simp [hl]; omega) (fun b => rdK_of hj (by simp [hl]) (fun d => (h ⟨a, b, d⟩).elim) fun _ => t1) fun _ => t1) fun _ => t1
theorem okRow7 {m k : Nat} {l : List Int} : (relsR5 m k 105).post l [1] := (by decide : (1 : Int) ≠ 0)
theorem e_far : ∀ r : Nat, (r = 1 ∨ r = 57) → (relsD (if r = 1 then 80 else 82)).post = postSum r ∧ ∀ i, (∃ A B, bothEnc r i A B ∧ asum iv A B = none) → (relsD (if r = 1 then 80 else 82)).pre i := by
  rintro r (rfl | rfl)
  · exact ⟨rfl, fun i h => h⟩
  · exact ⟨rfl, fun i h => h⟩
theorem e_fin : ∀ r : Nat, (r = 1 ∨ r = 57) → (relsD (if r = 1 then 81 else 83)).post = postSum r ∧ ∀ i, (∃ A B, bothEnc r i A B ∧ asum iv A B ≠ none) → (relsD (if r = 1 then 81 else 83)).pre i := by
  rintro r (rfl | rfl)
  · exact ⟨rfl, fun i h => h⟩
  · exact ⟨rfl, fun i h => h⟩
def slCond5 (m k id : Nat) (cls : List (Option Nat)) (V : (List Int → Prop) → List Int → Prop) : Prop :=
  alln (slKinds cls).length fun l => fitsC (slKinds cls) l ((relsR5 m k id).pre l → V (fun o => (relsR5 m k id).post l o) l)
theorem slCond5_of {m k id : Nat} {cls : List (Option Nat)} {V : (List Int → Prop) → List Int → Prop} (h : ∀ l : List Int, l.length = (slKinds cls).length → (relsR5 m k id).pre l → V (fun o => (relsR5 m k id).post l o) l) : slCond5 m k id cls V :=
  alln_len _ fun l hl => fitsC_intro _ _ fun hp => h l hl hp
def slCond4 (id : Nat) (cls : List (Option Nat)) (V : (List Int → Prop) → List Int → Prop) : Prop :=
  alln (slKinds cls).length fun l => fitsC (slKinds cls) l ((relsR4 id).pre l → V (fun o => (relsR4 id).post l o) l)
theorem slCond4_of {id : Nat} {cls : List (Option Nat)} {V : (List Int → Prop) → List Int → Prop} (h : ∀ l : List Int, l.length = (slKinds cls).length → (relsR4 id).pre l → V (fun o => (relsR4 id).post l o) l) : slCond4 id cls V :=
  alln_len _ fun l hl => fitsC_intro _ _ fun hp => h l hl hp
theorem okRow {l : List Int} : postRow l [1] := (by decide : (1 : Int) ≠ 0)
/-- Where a length is another one. -/
def row13o (P : List Int → Prop) (l : List Int) : Prop := gtK (nth 0 l 0) (P [1]) (gtK (nth 0 l 1) (P [1]) (gtK (nth 0 l 2) (P [1]) (othK (nth 0 l 0) (P [1]))))
def row13p (m : Nat) (P : List Int → Prop) (l : List Int) : Prop := gtK (nth 0 l m) (P [1]) (gtK (nth 0 l (m + 1)) (P [1]) (rdK m (l.take m) (P [1]) (othK (nth 0 l m) (P [1]))))
def row13q (m k : Nat) (P : List Int → Prop) (l : List Int) : Prop := gtK (nth 0 l (m + k)) (P [1]) (rdK m (l.take m) (P [1]) (rdK k ((l.drop m).take k) (P [1]) (othK (nth 0 l (m + k)) (P [1]))))
theorem row13p_law {m : Nat} {P : List Int → Prop} {l : List Int} (hm : m = 1 ∨ m = 57) (hl : m ≤ l.length) (ho : other (nth 0 l m)) (t1 : P [1]) : row13p m P l :=
  gtK_of t1 (gtK_of t1 (rdK_of hm (by simp; omega) (fun _ => othK_of ho t1) fun _ => t1))
theorem row13q_law {m k : Nat} {P : List Int → Prop} {l : List Int} (hm : m = 1 ∨ m = 57) (hk : k = 1 ∨ k = 57) (hl : l.length = m + k + 1) (ho : other (l.getLastD 0)) (t1 : P [1]) : row13q m k P l :=
  gtK_of t1 (rdK_of hm (by simp [hl]; omega) (fun _ => rdK_of hk (by simp [hl]; omega) (fun _ => othK_of (by rw [← last_at hl]; exact ho) t1) fun _ => t1) fun _ => t1)
end Go.Sx
