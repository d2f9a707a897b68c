/- Rows over slices of bytes: by length, or of whatever length. -/
import Derived.Test.YtkjfcpeabdimmaaPtRead
import Derived.WalkKit
import Derived.Laws.BytesArg
set_option linter.unusedVariables false
set_option linter.unusedSimpArgs false
set_option linter.constructorNameAsVariable false
namespace Go.Sx
open Go.Proofs Go.FP Go.EC
/-- Slices of a known length, or of any; numbered from b on, their regions from r on. -/
def slArgs : Nat → Nat → List (Option Nat) → List AV
  | _, _, [] => []
  | b, r, some m :: l => .one (.s (.sliceU r 0 m)) :: slArgs (b + m) (r + 1) l
  | b, r, none :: l => .one (.s (.sliceV b)) :: slArgs (b + 1) r l
def slHp : Nat → List (Option Nat) → List (List Sc)
  | _, [] => []
  | b, some m :: l => vs .u8 b m :: slHp (b + m) l
  | b, none :: l => slHp (b + 1) l
def slKinds : List (Option Nat) → List IntKind
  | [] => []
  | some m :: l => ks .u8 m ++ slKinds l
  | none :: l => .i64 :: slKinds l
def canSl (id : Nat) (cls : List (Option Nat)) : Can :=
  { id := id, kinds := slKinds cls, args := slArgs 0 0 cls, hp := (slHp 0 cls).map ro, outs := [.u8], res := .one (.s (.boolv (slKinds cls).length)), hpE := slHp 0 cls, new := [] }
/-- The number is no length of a point's longer form. -/
def other (n : Int) : Prop := n ≠ 1 ∧ n ≠ 57
/-- 91: the last number is another length; 92: the first one. -/
def relLast : RelSpec := { pre := fun i => other (i.getLastD 0), post := postRow }
def relFirst : RelSpec := { pre := fun i => other (nth 0 i 0), post := postRow }
def relsR2 (n : Nat) : RelSpec := if n = 91 then relLast else if n = 92 then relFirst else relsD n
theorem relsR2_D {n : Nat} (h : n ≠ 91) (h' : n ≠ 92) : relsR2 n = relsD n := by simp [relsR2, h, h']
theorem tabR2_ok : ∀ f con, (f, con) ∈ tabD → ConOk Try.prog relsR2 f con := by
  intro f con hm
  have h0 : (tabD.all fun x => x.2.id != 91 && x.2.id != 92) = true := by decide
  have := List.all_eq_true.1 h0 _ hm
  simp only [Bool.and_eq_true, bne_iff_ne, ne_eq] at this
  exact (tabD_ok f con hm).lift (relsR2_D this.1 this.2)
/-- Is the length beyond what the statements speak of? -/
def gtK (x : Int) (A B : Prop) : Prop := ∀ r : Int, r = (if cmpFn .gtr x 2147483647 = true then 1 else 0) → (r ≠ 0 → A) ∧ (r = 0 → B)
theorem gtK_of {x : Int} {A B : Prop} (hA : A) (hB : B) : gtK x A B := fun r _ => ⟨fun _ => hA, fun _ => hB⟩
/-- Another length is no point. -/
def othK (x : Int) (A : Prop) : Prop := byteK x 1 False (neqK x 57 A False)
theorem othK_of {x : Int} {A : Prop} (h : other x) (hA : A) : othK x A := byteK_of (fun e => h.1 e) fun _ => neqK_of (fun _ => hA) fun e => h.2 e
/-- The laws' sum, by its outcome; which of its numbers: the question's, far, not far. -/
def sumK (ask far fin : Nat) (i : List Int) (A B : List Int → Prop) : Prop := callD ask 1 i (one1 fun v => (v ≠ 0 → callD far 1 i A) ∧ (v = 0 → callD fin 57 i B))
theorem sumK_of {ask far fin m : Nat} (ea : relsD ask = relAskSum m) (e0 : relsD far = relSumFar m) (e1 : relsD fin = relSumFin m) {i : List Int} {A B : List Int → Prop} {P Q : Pt p} (h : bothEnc m i P Q)
    (hA : ∀ o : List Int, o.length = 1 → EncB o (asum iv P Q) → A o) (hB : ∀ o : List Int, o.length = 57 → EncB o (asum iv P Q) → B o) : sumK ask far fin i A B := by
  refine callD_of (by rw [ea]; trivial) fun v lv hv => ?_
  rw [ea] at hv
  have hv' : isB v (∃ P Q, bothEnc m i P Q ∧ asum iv P Q = none) := hv
  match v, lv with
  | [r], _ =>
    by_cases hs : asum iv P Q = none
    · have e1' : r = 1 := hv'.1 ⟨P, Q, h, hs⟩
      subst e1'
      refine ⟨fun _ => callD_of (by rw [e0]; exact ⟨P, Q, h, hs⟩) fun o lo ho => ?_, fun k => absurd k (by decide)⟩
      rw [e0] at ho
      exact hA o lo (ho P Q h)
    · have e0' : r = 0 := hv'.2 fun ⟨P', Q', h', hs'⟩ => by
        obtain ⟨rfl, rfl⟩ := h.uniq h'
        exact hs hs'
      subst e0'
      refine ⟨fun k => absurd rfl k, fun _ => callD_of (by rw [e1]; exact ⟨P, Q, h, hs⟩) fun o lo ho => ?_⟩
      rw [e1] at ho
      exact hB o lo (ho P Q h)
theorem fitsC_intro : ∀ (ks : List IntKind) (xs : List Int) {p : Prop}, p → fitsC ks xs p
  | [], _, _, h => h
  | _ :: _, [], _, h => h
  | _ :: ks, _ :: xs, _, h => fun _ _ => fitsC_intro ks xs h
/-- The condition of a row over slices. -/
def slCond (id : Nat) (cls : List (Option Nat)) (V : (List Int → Prop) → List Int → Prop) : Prop :=
  alln (slKinds cls).length fun l => fitsC (slKinds cls) l ((relsR2 id).pre l → V (fun o => (relsR2 id).post l o) l)
theorem slCond_of {id : Nat} {cls : List (Option Nat)} {V : (List Int → Prop) → List Int → Prop} (h : ∀ l : List Int, l.length = (slKinds cls).length → (relsR2 id).pre l → V (fun o => (relsR2 id).post l o) l) : slCond id cls V :=
  alln_len _ fun l hl => fitsC_intro _ _ fun hp => h l hl hp
theorem ok90 {l : List Int} : (fun o => (relsR2 90).post l o) [1] := (by decide : (1 : Int) ≠ 0)
theorem ok91 {l : List Int} : (fun o => (relsR2 91).post l o) [1] := (by decide : (1 : Int) ≠ 0)
theorem ok92 {l : List Int} : (fun o => (relsR2 92).post l o) [1] := (by decide : (1 : Int) ≠ 0)
theorem last_at {l : List Int} {n : Nat} (h : l.length = n + 1) : l.getLastD 0 = nth 0 l n := by
  induction n generalizing l with
  | zero =>
    match l, h with
    | [a], _ => rfl
  | succ n ih =>
    match l, h with
    | a :: b :: l, h =>
      have := ih (l := b :: l) (by simpa using h)
      simpa [List.getLastD, nth] using this
end Go.Sx

/- The laws' comparison of bytes (same): equal just where the numbers are. -/
namespace Go.Sx
open Go Go.Proofs

set_option maxHeartbeats 1000000 in
theorem same_run (b1 o1 b2 o2 n1 n2 c1 c2 : Nat) (xs ys : List Int) (w : World) (hx : xs.length = n1) (hy : ys.length = n2) (h1 : ∀ i, i < n1 → w.cell? ⟨b1, o1 + i, none⟩ = some (.int .u8 (xs.getD i 0))) (h2 : ∀ i, i < n2 → w.cell? ⟨b2, o2 + i, none⟩ = some (.int .u8 (ys.getD i 0))) :
    Calls Try.prog 34 #[.slice (some ⟨b1, o1, none⟩) n1 c1, .slice (some ⟨b2, o2, none⟩) n2 c2] w fun e w' => e = .returned (.bool ((strOfNums xs).toList == (strOfNums ys).toList)) ∧ w' = w := by
  have k1 := run_convert_bytes_arg (P := Try.prog) w 40 5 Try.underlying40 Try.underlying5 b1 o1 n1 c1 xs hx h1 9 Try.underlying9
  have k2 := run_convert_bytes_arg (P := Try.prog) w 40 5 Try.underlying40 Try.underlying5 b2 o2 n2 c2 ys hy h2 9 Try.underlying9
  clear h1 h2
  generalize strOfNums xs = s at *
  generalize strOfNums ys = t at *
  go_enter Try.func34, Try.ntmps34
  go_wp2
  go_ret
  exact ⟨rfl, rfl⟩
theorem strOf_eq {xs ys : List Int} (hx : ∀ x ∈ xs, Fits .u8 x) (hy : ∀ x ∈ ys, Fits .u8 x) : ((strOfNums xs).toList == (strOfNums ys).toList) = decide (xs = ys) := by
  have inj : ∀ (xs ys : List Int), (∀ x ∈ xs, Fits .u8 x) → (∀ x ∈ ys, Fits .u8 x) → (xs.map fun n => UInt8.ofNat n.toNat) = (ys.map fun n => UInt8.ofNat n.toNat) → xs = ys := by
    intro xs
    induction xs with
    | nil => intro ys _ _ h; cases ys <;> simp_all
    | cons x xs ih =>
      intro ys hx hy h
      cases ys with
      | nil => simp at h
      | cons y ys =>
        simp only [List.map_cons, List.cons.injEq] at h
        have e1 := hx x (by simp)
        have e2 := hy y (by simp)
        simp only [Fits, kmin, kmax] at e1 e2
        have e3 := congrArg UInt8.toNat h.1
        simp only [UInt8.toNat_ofNat'] at e3
        have e4 : x = y := by omega
        rw [e4, ih ys (fun z hz => hx z (by simp [hz])) (fun z hz => hy z (by simp [hz])) h.2]
  rw [Go.ByteArray.toList_eq, Go.ByteArray.toList_eq, strOfNums_data, strOfNums_data]
  by_cases h : xs = ys
  · subst h; simp
  · have : ¬ (xs.map fun n => UInt8.ofNat n.toNat) = (ys.map fun n => UInt8.ofNat n.toNat) := fun k => h (inj xs ys hx hy k)
    simp [h, this]

/-- The bytes of cells. -/
def u8s : List Sc → Option (List Src)
  | [] => some []
  | c :: cs => match srcK c, u8s cs with
    | some (.u8, s), some l => some (s :: l)
    | _, _ => none
def bytesX (hp : List Reg) (x : AV) : Option (Nat × List Src) :=
  match srcX x with
  | some (r, o, n) => match hp[r]? with
    | some g => if o + n ≤ g.cs.length then (match u8s ((g.cs.drop o).take n) with
      | some l => some (n, l)
      | none => none) else none
    | none => none
  | none => none
def conSame : Con := { id := 100, n := 1, app := fun args hp b => match args with
  | [x, y] => match bytesX hp x, bytesX hp y with
    | some (n, l), some (m, k) => if n = m then some (l ++ k, hp, .one (.s (.boolv b))) else some ([], hp, .one (.s (.bool false)))
    | _, _ => none
  | _ => none }
def relSameN : RelSpec := { pre := fun _ => True, post := fun i o => isB o (i.take (i.length / 2) = i.drop (i.length / 2)) }
theorem u8s_R {ρ : Env} {β : Base} : ∀ (cs : List Sc) (l : List Src), u8s cs = some l → l.length = cs.length ∧ ∀ (i : Nat) c, cs[i]? = some c → ∀ v, c.R ρ β v → v = .int .u8 ((l.map (Src.ev ρ)).getD i 0) ∧ Fits .u8 ((l.map (Src.ev ρ)).getD i 0)
  | [], l, h => by
    obtain rfl := Option.some.inj h
    exact ⟨rfl, fun i c e => by simp at e⟩
  | c :: cs, l, h => by
    simp only [u8s] at h
    split at h
    · rename_i s l' hs hl
      obtain rfl := Option.some.inj h
      obtain ⟨h1, h2⟩ := u8s_R cs l' hl
      refine ⟨by simp [h1], fun i d e v hR => ?_⟩
      cases i with
      | zero =>
        simp at e
        subst e
        simpa using srcK_spec hs hR
      | succ i =>
        simp at e
        simpa using h2 i d e v hR
    · cases h
theorem bytesX_R {S0 : Old} {ρ : Env} {β : Base} {hp : List Reg} {w0 w : World} (hM : Mem S0 ρ β hp w0 w) {x : AV} {v : Value} {n : Nat} {l : List Src} (hR : x.R ρ β v) (h : bytesX hp x = some (n, l)) :
    ∃ b o cap, v = .slice (some ⟨b, o, none⟩) n cap ∧ l.length = n ∧ (∀ i, i < n → w.cell? ⟨b, o + i, none⟩ = some (.int .u8 ((l.map (Src.ev ρ)).getD i 0))) ∧ ∀ y ∈ l.map (Src.ev ρ), Fits .u8 y := by
  unfold bytesX at h
  split at h
  · rename_i r o n' hs
    split at h
    · rename_i g hg
      split at h
      · rename_i hle
        split at h
        · rename_i l' hl
          simp only [Option.some.injEq, Prod.mk.injEq] at h
          obtain ⟨rfl, rfl⟩ := h
          obtain ⟨bb, cap, hb, hv⟩ : ∃ b cap, β[r]? = some b ∧ v = .slice (some ⟨b.1, b.2 + o, none⟩) n' cap := by
            unfold srcX at hs
            split at hs
            · simp only [Option.some.injEq, Prod.mk.injEq] at hs
              obtain ⟨rfl, rfl, rfl⟩ := hs
              obtain ⟨b, hb, hv⟩ := hR
              exact ⟨b, _, hb, hv⟩
            · simp only [Option.some.injEq, Prod.mk.injEq] at hs
              obtain ⟨rfl, rfl, rfl⟩ := hs
              obtain ⟨b, cap, hb, hv, _⟩ := hR
              exact ⟨b, cap, hb, hv⟩
            · cases hs
          obtain ⟨hlen, hall⟩ := u8s_R (ρ := ρ) (β := β) _ _ hl
          have hll : ((g.cs.drop o).take n').length = n' := by simp; omega
          have each : ∀ i, i < n' → w.cell? ⟨bb.1, bb.2 + o + i, none⟩ = some (.int .u8 ((l'.map (Src.ev ρ)).getD i 0)) ∧ Fits .u8 ((l'.map (Src.ev ρ)).getD i 0) := fun i hi => by
            have hc : ((g.cs.drop o).take n')[i]? = some (((g.cs.drop o).take n')[i]'(by omega)) := List.getElem?_eq_getElem (by omega)
            have hc2 : g.cs[o + i]? = some (((g.cs.drop o).take n')[i]'(by omega)) := by
              rw [← hc, List.getElem?_take, if_pos hi, List.getElem?_drop]
            obtain ⟨u, hu, hRu⟩ := hM.cell r g bb hg hb (o + i) _ hc2
            obtain ⟨k1, k2⟩ := hall i _ hc u hRu
            rw [k1] at hu
            exact ⟨by rw [← hu, Nat.add_assoc], k2⟩
          refine ⟨bb.1, bb.2 + o, cap, hv, by omega, fun i hi => (each i hi).1, fun y hy => ?_⟩
          obtain ⟨i, hi⟩ := List.getElem?_of_mem hy
          have hlt := lt_of_some hi
          simp at hlt
          have := (each i (by omega)).2
          rw [List.getD, hi] at this
          exact this
        · cases h
      · cases h
    · cases h
  · cases h
theorem alike_con {rels : Nat → RelSpec} (hrel : rels 100 = relSameN) : ConOk Try.prog rels 34 conSame := by
  refine ⟨fun h => Bool.noConfusion h, fun _ => ?_⟩
  intro S0 w0 ρ β hp w avs vals xs hp' av hM hargs happ hpre
  simp only [conSame] at happ
  match avs, vals, hargs, happ with
  | [x, y], [v, u], hargs, happ =>
    simp only at happ
    split at happ
    · rename_i n l m k hx hy
      obtain ⟨b1, o1, c1, rfl, l1, h1, f1⟩ := bytesX_R hM hargs.1 hx
      obtain ⟨b2, o2, c2, rfl, l2, h2, f2⟩ := bytesX_R hM hargs.2.1 hy
      have run := same_run b1 o1 b2 o2 n m c1 c2 (l.map (Src.ev ρ)) (k.map (Src.ev ρ)) w (by simp [l1]) (by simp [l2]) h1 h2
      rw [strOf_eq f1 f2] at run
      split at happ
      · rename_i hnm
        subst hnm
        simp only [Option.some.injEq, Prod.mk.injEq] at happ
        obtain ⟨rfl, rfl, rfl⟩ := happ
        refine run.mono fun e w' ⟨he, hw⟩ => ?_
        subst hw
        refine ⟨_, [if l.map (Src.ev ρ) = k.map (Src.ev ρ) then 1 else 0], β, he, rfl, ?_, Ext.refl _, ⟨if l.map (Src.ev ρ) = k.map (Src.ev ρ) then 1 else 0, by simp, ?_⟩, hM.mono (Ext.app _ _)⟩
        · show (rels 100).post _ _
          rw [hrel]
          have e1 : ((l ++ k).map (Src.ev ρ)).length / 2 = (l.map (Src.ev ρ)).length := by simp; omega
          have hp : isB [if l.map (Src.ev ρ) = k.map (Src.ev ρ) then 1 else 0] (((l ++ k).map (Src.ev ρ)).take (((l ++ k).map (Src.ev ρ)).length / 2) = ((l ++ k).map (Src.ev ρ)).drop (((l ++ k).map (Src.ev ρ)).length / 2)) := by
            rw [e1, List.map_append, take_app rfl, drop_app rfl]
            exact ⟨fun h => if_pos h, fun h => if_neg h⟩
          exact hp
        · by_cases h : l.map (Src.ev ρ) = k.map (Src.ev ρ) <;> simp [h]
      · rename_i hnm
        simp only [Option.some.injEq, Prod.mk.injEq] at happ
        obtain ⟨rfl, rfl, rfl⟩ := happ
        have hne : ¬ l.map (Src.ev ρ) = k.map (Src.ev ρ) := fun h => hnm (by have := congrArg List.length h; simp at this; omega)
        refine run.mono fun e w' ⟨he, hw⟩ => ?_
        subst hw
        refine ⟨_, [1], β, he, rfl, ?_, Ext.refl _, ?_, hM.mono (Ext.app _ _)⟩
        · show (rels 100).post _ _
          rw [hrel]
          exact ⟨fun _ => rfl, fun h => (h (by simp)).elim⟩
        · show Value.bool (decide _) = Value.bool false
          simp [hne]
    · cases happ
  | [], _, _, happ => cases happ
  | [_], _, _, happ => cases happ
  | _ :: _ :: _ :: _, _, _, happ => cases happ
end Go.Sx

/- Rows over slices of bytes that compare. -/
namespace Go.Sx
open Go.Proofs Go.FP Go.EC
/-- 100: the comparison of bytes. -/
def relsR3 (n : Nat) : RelSpec := if n = 100 then relSameN else relsR2 n
def tabR3 : List (FuncId × Con) := (34, conSame) :: tabD
theorem tabR3_ok : ∀ f con, (f, con) ∈ tabR3 → ConOk Try.prog relsR3 f con := tabCons (alike_con rfl) (by
  intro f con hm
  have h0 : (tabD.all fun x => x.2.id != 100) = true := by decide
  have := List.all_eq_true.1 h0 _ hm
  simp only [bne_iff_ne, ne_eq] at this
  exact (tabR2_ok f con hm).lift (by simp [relsR3, this]))
def callR3 (id n : Nat) (i : List Int) (K : List Int → Prop) : Prop := (relsR3 id).pre i ∧ alln n fun o => (relsR3 id).post i o → K o
theorem callR3_of {id n : Nat} {i : List Int} {K : List Int → Prop} (hp : (relsR3 id).pre i) (h : ∀ o : List Int, o.length = n → (relsR3 id).post i o → K o) : callR3 id n i K := ⟨hp, alln_len n h⟩
/-- Are the bytes the same? -/
def alikeK (a b : List Int) (K : Int → Prop) : Prop := callR3 100 1 (a ++ b) (one1 K)
theorem alikeK_of {a b : List Int} {K : Int → Prop} (hl : a.length = b.length) (h1 : a = b → K 1) (h0 : a ≠ b → K 0) : alikeK a b K := by
  refine callR3_of trivial fun o lo ho => ?_
  have ho' : isB o ((a ++ b).take ((a ++ b).length / 2) = (a ++ b).drop ((a ++ b).length / 2)) := ho
  have e : (a ++ b).length / 2 = a.length := by simp; omega
  rw [e, take_app rfl, drop_app rfl] at ho'
  match o, lo with
  | [r], _ =>
    by_cases h : a = b
    · have e1 : r = 1 := ho'.1 h
      subst e1
      exact h1 h
    · have e0 : r = 0 := ho'.2 h
      subst e0
      exact h0 h
def slCond3 (id : Nat) (cls : List (Option Nat)) (V : (List Int → Prop) → List Int → Prop) : Prop :=
  alln (slKinds cls).length fun l => fitsC (slKinds cls) l ((relsR3 id).pre l → V (fun o => (relsR3 id).post l o) l)
theorem slCond3_of {id : Nat} {cls : List (Option Nat)} {V : (List Int → Prop) → List Int → Prop} (h : ∀ l : List Int, l.length = (slKinds cls).length → (relsR3 id).pre l → V (fun o => (relsR3 id).post l o) l) : slCond3 id cls V :=
  alln_len _ fun l hl => fitsC_intro _ _ fun hp => h l hl hp
theorem ok90' {l : List Int} : (fun o => (relsR3 90).post l o) [1] := (by decide : (1 : Int) ≠ 0)
theorem ok91' {l : List Int} : (fun o => (relsR3 91).post l o) [1] := (by decide : (1 : Int) ≠ 0)
theorem ok92' {l : List Int} : (fun o => (relsR3 92).post l o) [1] := (by decide : (1 : Int) ≠ 0)
end Go.Sx
