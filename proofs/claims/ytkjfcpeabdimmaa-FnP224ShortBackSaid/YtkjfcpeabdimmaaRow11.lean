/- Row FnP224Parse: the answer is true, by length and by whether the bytes are a point. -/
import Derived.Test.YtkjfcpeabdimmaaPtWrite
set_option linter.unusedVariables false
set_option linter.unusedSimpArgs false
set_option linter.constructorNameAsVariable false
set_option maxRecDepth 100000
set_option maxHeartbeats 4000000
namespace Go.Sx
open Go.Proofs Go.FP Go.EC
/-- 122: never called; 118: another length. -/
def relsX (n : Nat) : RelSpec := if n = 118 then { pre := fun i => other (nth 0 i 0) ∧ 0 ≤ nth 0 i 0, post := postRow } else if n = 122 then { pre := fun _ => False, post := fun _ _ => True } else relsWr n
def conNever : Con := { id := 122, n := 0, app := fun _ hp _ => some ([], hp, .tup []) }
theorem never_ok (f : FuncId) : ConOk Try.prog relsX f conNever := by
  refine ⟨fun h => Bool.noConfusion h, fun _ => ?_⟩
  intro S0 w0 ρ β hp w avs vals xs hp' av hM hargs happ hpre
  exact False.elim hpre
theorem tabX_ok : ∀ f con, (f, con) ∈ tabR4 → ConOk Try.prog relsX f con := by
  intro f con hm
  have h0 : (tabR4.all fun x => decide (x.2.id < 118)) = true := by decide
  have := List.all_eq_true.1 h0 _ hm
  simp only [decide_eq_true_eq] at this
  refine (tabWr0_ok f con hm).lift ?_
  unfold relsX
  rw [if_neg (by omega), if_neg (by omega)]
theorem tabWr_ok : ∀ f con, (f, con) ∈ tabWr → ConOk Try.prog relsX f con := tabCons (written_con.lift rfl) (tabCons (shortS_con.lift rfl) (tabCons (shFin_con.lift rfl) (fun f con h => by cases h)))
def slCondX (id : Nat) (cls : List (Option Nat)) (V : (List Int → Prop) → List Int → Prop) : Prop :=
  alln (slKinds cls).length fun l => fitsC (slKinds cls) l ((relsX id).pre l → V (fun o => (relsX id).post l o) l)
theorem fitsC_intro2 : ∀ (ks : List IntKind) (xs : List Int) {p : Prop}, ((∀ (i : Nat) (k : IntKind) (x : Int), ks[i]? = some k → xs[i]? = some x → Fits k x) → p) → fitsC ks xs p
  | [], _, _, h => h fun i k x e => by simp at e
  | _ :: _, [], _, h => h fun i k x _ e => by simp at e
  | k :: ks, x :: xs, p, h => fun h1 h2 => fitsC_intro2 ks xs fun hh => h fun i k' x' e e' => by
    cases i with
    | zero => simp at e e'; subst e e'; exact ⟨h1, h2⟩
    | succ i => exact hh i k' x' (by simpa using e) (by simpa using e')
theorem slCondX_of {id : Nat} {cls : List (Option Nat)} {V : (List Int → Prop) → List Int → Prop} (h : ∀ l : List Int, l.length = (slKinds cls).length → (∀ (i : Nat) (k : IntKind) (x : Int), (slKinds cls)[i]? = some k → l[i]? = some x → Fits k x) → (relsX id).pre l → V (fun o => (relsX id).post l o) l) : slCondX id cls V :=
  alln_len _ fun l hl => fitsC_intro2 _ _ fun hf hp => h l hl hf hp
theorem okX {id : Nat} {l : List Int} (h : (relsX id).post = postRow) : (fun o => (relsX id).post l o) [1] := by
  show (relsX id).post l [1]
  rw [h]
  exact (by decide : (1 : Int) ≠ 0)

-- 57 bytes that are a point
def t11a : List (FuncId × Con) := [(59, (canPt 57).con), (63, canOutFin.con), (32, canRdOk.con)] ++ (tabWr ++ tabR4)
theorem t11a_ok : ∀ f con, (f, con) ∈ t11a → ConOk Try.prog relsX f con := tabApp (tabCons (pt57_con.lift rfl) (tabCons (outFin_con.lift rfl) (tabCons (rdOk_con.lift rfl) (fun f con h => by cases h)))) (tabApp tabWr_ok tabX_ok)
def row11a (P : List Int → Prop) (l : List Int) : Prop :=
  callE 71 12 l fun e => callE 74 57 e fun L => callW 124 29 e fun S => callD 87 15 l fun o => ifK (nth 0 o 14) (callW 125 57 (o.take 14) fun W => alikeK L W fun t => ifK t (callW 126 29 (o.take 14) fun T => alikeK S T fun u => P [u]) (P [0])) (P [0])
theorem row11_a : Can.condT (canSl 120 [some 57]) Try.prog X2 t11a relsX 10 30 = slCondX 120 [some 57] row11a := by kernel_rfl
-- 57 bytes that are none
def t11b : List (FuncId × Con) := (63, conNever) :: (64, conNever) :: (tabRd ++ tabU)
theorem t11b_ok : ∀ f con, (f, con) ∈ t11b → ConOk Try.prog relsX f con := tabCons (never_ok 63) (tabCons (never_ok 64) (by
  intro f con h
  refine tabX_ok f con ?_
  rcases List.mem_append.1 h with h | h
  · exact List.mem_append_right _ (List.mem_append_right _ (List.mem_cons_of_mem _ (List.mem_append_left _ h)))
  · exact List.mem_append_right _ (List.mem_append_right _ (List.mem_cons_of_mem _ (List.mem_append_right _ (List.mem_append_right _ (List.mem_append_right _ h)))))))
def nvX (K : Prop) : Prop := (relsX 122).pre [] ∧ ((relsX 122).post [] [] → K)
def neverK : Prop := nvX (nvX False)
def row11b (P : List Int → Prop) (l : List Int) : Prop :=
  byteK (nth 0 l 0) 4 (setU (cX l) (rdK 57 l (P [1]) (P [0])) fun ex => setU (cY l) (rdK 57 l (P [1]) (P [0])) fun ey => checkVC ex ey (rdK 57 l (P [1]) (P [0])) neverK) (rdK 57 l (P [1]) (P [0]))
theorem row11_b : Can.condT (canSl 121 [some 57]) Try.prog X2 t11b relsX 10 30 = slCondX 121 [some 57] row11b := by kernel_rfl
-- one byte
def t11c : List (FuncId × Con) := [(59, (canPt 1).con), (63, canOutFar.con), (64, canShFar.con)] ++ tabR4
theorem t11c_ok : ∀ f con, (f, con) ∈ t11c → ConOk Try.prog relsX f con := tabApp (tabCons (pt1_con.lift rfl) (tabCons (outFar_con.lift rfl) (tabCons (shFar_con.lift rfl) (fun f con h => by cases h)))) tabX_ok
def row11c (P : List Int → Prop) (l : List Int) : Prop :=
  callE 71 12 l fun e => callE 73 1 e fun L => callW 127 1 e fun S => byteK (nth 0 l 0) 0 (alikeK L [0] fun t => ifK t (alikeK S [0] fun u => P [u]) (P [0])) (P [0])
theorem row11_c : Can.condT (canSl 120 [some 1]) Try.prog X2 t11c relsX 10 30 = slCondX 120 [some 1] row11c := by kernel_rfl
def row11d (P : List Int → Prop) (l : List Int) : Prop := byteK (nth 0 l 0) 0 neverK (rdK 1 l (P [1]) (P [0]))
theorem row11_d : Can.condT (canSl 121 [some 1]) Try.prog X2 t11b relsX 10 30 = slCondX 121 [some 1] row11d := by kernel_rfl
-- another length
def canN (id : Nat) : Can := { id := id, kinds := [.i64], args := [.one (.s (.sliceN 0 0))], hp := [{ cs := [], rw := false, bulk := some 0 }], outs := [.u8], res := .one (.s (.boolv 1)), hpE := [[]], new := [] }
def canNil (id : Nat) : Can := { id := id, kinds := [], args := [.one (.s .nils)], hp := [], outs := [.u8], res := .one (.s (.boolv 0)), hpE := [], new := [] }
def shrK (a : Int) (A : Prop) : Prop := binPre .shr a ∧ ∀ r : Int, r = binFn .shr .i64 0 a → A
def row11n (P : List Int → Prop) (l : List Int) : Prop := gtK (nth 0 l 0) (P [1]) (byteK (nth 0 l 0) 29 (P [1]) (binR .sub .i64 2147483647 (nth 0 l 0) fun a => shrK a (byteK (nth 0 l 0) 1 False (byteK (nth 0 l 0) 57 False (byteK (nth 0 l 0) 29 False (othK (nth 0 l 0) (P [1])))))))
theorem row11_n : Can.condT (canN 118) Try.prog X2 tabR4 relsX 10 30 = slCondX 118 [none] row11n := by kernel_rfl
theorem row11_0 : Can.condT (canNil 90) Try.prog X2 tabR4 relsX 10 30 = ((relsX 90).pre [] → (relsX 90).post [] [1]) := by kernel_rfl

theorem enc57 {l : List Int} (hl : l.length = 57) {P : Pt p} (h : EncB l P) : ∃ x y, P = some (x, y) := by
  match P, h with
  | none, h =>
    have : l = [0] := h
    subst this
    exact absurd hl (by decide)
  | some (x, y), _ => exact ⟨x, y, rfl⟩
theorem ifK_b {r : Int} {q : Prop} {A B : Prop} (hr : (q → r = 1) ∧ (¬ q → r = 0)) (h1 : q → A) (h0 : ¬ q → B) : ifK r A B := by
  by_cases h : q
  · rw [hr.1 h]; exact ifK_1 (h1 h)
  · rw [hr.2 h]; exact ifK_0 (h0 h)
/-- The point of an encoding is not far where its bytes are 57. -/
theorem rep_fin {e : List Int} {x y : F} (h : Rep bF (tri3 e 0) (some (x, y))) : dec64 (el4 e 2) ≠ 0 := h.1
theorem writ_enc {o W : List Int} {x y : F} (lo : o.length = 14) (lW : W.length = 57) (hon : onC x y) (hX : W32 (o.take 7) x) (hY : W32 (o.drop 7) y) (hW : (relsWr 125).post o W) : EncB W (some (x, y)) := by
  obtain ⟨r, h4, vx, vy⟩ : rng 256 W ∧ W.take 1 = [4] ∧ valB (cX W) = val32 (o.take 7) ∧ valB (cY W) = val32 (o.drop 7) := hW
  exact ⟨lW, r, h4, by rw [vx]; exact hX.ok.2, by rw [vy]; exact hY.ok.2, by rw [vx]; exact hX.dec, by rw [vy]; exact hY.dec, hon⟩
theorem val32_mod2 {l : List Int} (h : l.length = 7) : val32 l % 2 = nth 0 l 0 % 2 := by
  match l, h with
  | a :: l, _ =>
    simp only [val32, valL, nth]
    omega
theorem nth_drop7 {l : List Int} : nth 0 l 7 = nth 0 (l.drop 7) 0 := by
  have : ∀ (n : Nat) (l : List Int), nth 0 l n = nth 0 (l.drop n) 0 := by
    intro n
    induction n with
    | zero => intro l; rfl
    | succ n ih =>
      intro l
      cases l with
      | nil => rfl
      | cons a l => exact ih l
  exact this 7 l
theorem short_enc {o T : List Int} {x y : F} (lo : o.length = 14) (lT : T.length = 29) (hon : onC x y) (hX : W32 (o.take 7) x) (hY : W32 (o.drop 7) y) (hT : (relsWr 126).post o T) : ShB T (some (x, y)) := by
  obtain ⟨r, h0, vx⟩ : rng 256 T ∧ nth 0 T 0 = 2 + nth 0 o 7 % 2 ∧ valB (T.drop 1) = val32 (o.take 7) := hT
  refine ⟨lT, r, ?_, by rw [vx]; exact hX.ok.2, by rw [vx]; exact hX.dec, hon⟩
  rw [h0, nth_drop7, ← val32_mod2 hY.len, ← tF_val (val32_nonneg hY.ok.1) hY.ok.2]
  rw [show tF (val32 (o.drop 7)) = y from hY.dec]
theorem row11a_law {l : List Int} (hl : l.length = 57) (hp : isEnc l) {P : List Int → Prop} (t1 : P [1]) : row11a P l := by
  obtain ⟨Q, hQ⟩ := hp
  obtain ⟨x, y, rfl⟩ := enc57 hl hQ
  refine callE_of ⟨_, hQ⟩ fun e le he => ?_
  obtain ⟨oe, re⟩ : ok3 e 0 ∧ ∀ P, EncB l P → Rep bF (tri3 e 0) P := he
  have hR := re _ hQ
  refine callE_of ⟨oe, ⟨_, hR⟩, rep_fin hR⟩ fun L lL hL => callW_of ⟨oe, ⟨_, hR⟩, rep_fin hR⟩ fun S lS hS => callD_of ⟨_, hQ⟩ fun o lo ho => ?_
  obtain ⟨h14, hxy⟩ : nth 0 o 14 = 1 ∧ ∀ x y, EncB l (some (x, y)) → W32 (o.take 7) x ∧ W32 ((o.drop 7).take 7) y := ho
  obtain ⟨hX, hY⟩ := hxy x y hQ
  have e1 : (o.take 14).take 7 = o.take 7 := by rw [List.take_take]; rfl
  have e2 : (o.take 14).drop 7 = (o.drop 7).take 7 := by rw [List.drop_take]
  have hX' : W32 ((o.take 14).take 7) x := by rw [e1]; exact hX
  have hY' : W32 ((o.take 14).drop 7) y := by rw [e2]; exact hY
  have l14 : (o.take 14).length = 14 := by simp [lo]
  have r14 : r32 (o.take 14) := by
    have : o.take 14 = (o.take 14).take 7 ++ (o.take 14).drop 7 := (List.take_append_drop 7 _).symm
    rw [this]
    exact rng_append hX'.ok.1 hY'.ok.1
  rw [h14]
  refine ifK_1 (callW_of r14 fun W lW hW => alikeK_of (by omega) (fun _ => ifK_1 (callW_of r14 fun T lT hT => alikeK_of (by omega) (fun _ => t1) fun k => (k ?_).elim)) fun k => (k ?_).elim)
  · exact (show ShB S (some (x, y)) from hS _ hR).inj (short_enc l14 lT hQ.on hX' hY' hT)
  · exact (show EncB L (some (x, y)) from hL _ hR).inj (writ_enc l14 lW hQ.on hX' hY' hW)
theorem row11b_law {l : List Int} (hr : rng 256 l) (hl : l.length = 57) (hp : ¬ isEnc l) {P : List Int → Prop} (t1 : P [1]) : row11b P l := by
  have R : rdK 57 l (P [1]) (P [0]) := rdK_of (.inr rfl) hl (fun k => (hp k).elim) fun _ => t1
  have e4 : l.take 1 = [nth 0 l 0] := by
    match l, hl with
    | a :: l, _ => rfl
  refine byteK_of (fun h4 => setU_of (rng_take _ (rng_drop _ hr)) (by simp [cX, hl]) (fun _ => R) fun vx ex hx => setU_of (rng_drop _ hr) (by simp [cY, hl]) (fun _ => R) fun vy ey hy => check_of hx hy (fun hon => ?_) fun _ => R) fun _ => R
  exact (hp ⟨some (_, _), hl, hr, by rw [e4, h4], vx, vy, rfl, rfl, hon⟩).elim
theorem enc1 {l : List Int} (hl : l.length = 1) {P : Pt p} (h : EncB l P) : P = none ∧ l = [0] := by
  match P, h with
  | none, h => exact ⟨rfl, h⟩
  | some (x, y), h => exact absurd h.1 (by omega)
theorem row11c_law {l : List Int} (hl : l.length = 1) (hp : isEnc l) {P : List Int → Prop} (t1 : P [1]) : row11c P l := by
  obtain ⟨Q, hQ⟩ := hp
  obtain ⟨rfl, rfl⟩ := enc1 hl hQ
  refine callE_of ⟨_, hQ⟩ fun e le he => ?_
  obtain ⟨oe, re⟩ : ok3 e 0 ∧ ∀ P, EncB [0] P → Rep bF (tri3 e 0) P := he
  have hR := re _ hQ
  have hz : dec64 (el4 e 2) = 0 := hR.2.1
  refine callE_of ⟨oe, ⟨_, hR⟩, hz⟩ fun L lL hL => callW_of ⟨oe, ⟨_, hR⟩, hz⟩ fun S lS hS => byteK_of (fun _ => alikeK_of (by simp [lL]) (fun _ => ifK_1 (alikeK_of (by simp [lS]) (fun _ => t1) fun k => (k ?_).elim)) fun k => (k ?_).elim) fun k => (k rfl).elim
  · exact (show ShB S none from hS _ hR)
  · exact (show EncB L none from hL _ hR)
theorem row11d_law {l : List Int} (hl : l.length = 1) (hp : ¬ isEnc l) {P : List Int → Prop} (t1 : P [1]) : row11d P l := by
  refine byteK_of (fun h => (hp ⟨none, ?_⟩).elim) fun _ => rdK_of (.inl rfl) hl (fun k => (hp k).elim) fun _ => t1
  match l, hl with
  | [x], _ =>
    have : x = 0 := h
    rw [this]
    exact rfl
theorem gtK_of' {x : Int} {A B : Prop} (hA : A) (hB : x ≤ 2147483647 → B) : gtK x A B := fun r e => ⟨fun _ => hA, fun h => hB (by
  have := cmp_ite e
  apply Classical.byContradiction
  intro k
  exact this.2 (by simp [cmpFn]; omega) h)⟩
theorem row11n_law {l : List Int} (hf : Fits .i64 (nth 0 l 0)) (ho' : other (nth 0 l 0) ∧ 0 ≤ nth 0 l 0) {P : List Int → Prop} (t1 : P [1]) : row11n P l := by
  obtain ⟨ho, hge⟩ := ho'
  refine gtK_of' t1 fun hle => byteK_of (fun _ => t1) fun h29 => binR_of ⟨⟨fun h => Bool.noConfusion h, fun _ => ?_⟩, fun r _ => byteK_of (fun e => (ho.1 e)) fun _ => byteK_of (fun e => ho.2 e) fun _ => byteK_of (fun e => h29 e) fun _ => othK_of ho t1⟩
  have : binFn .sub .i64 2147483647 (nth 0 l 0) = 2147483647 - nth 0 l 0 := by
    simp only [Fits, kmin, kmax] at hf
    exact wrap_of_fits (k := .i64) (by simp only [Fits, kmin, kmax]; omega)
  rw [this]
  omega
theorem rng_fits {m : Nat} {l : List Int} (hl : l.length = m) (hf : ∀ (i : Nat) (k : IntKind) (x : Int), (slKinds [some m])[i]? = some k → l[i]? = some x → Fits k x) : rng 256 l := by
  refine rng_of_mem (b := 256) l fun x hx => ?_
  obtain ⟨i, hi⟩ := List.getElem?_of_mem hx
  have hlt := lt_of_some hi
  have hk : (slKinds [some m])[i]? = some .u8 := by
    simp only [slKinds, ks, List.append_nil, List.getElem?_map]
    rw [List.getElem?_range (by omega)]
    rfl
  exact hf i .u8 x hk hi
theorem row11_a_ok : CanOk Try.prog relsX 10 (canSl 120 [some 57]) := can_of_condT hX2 hm2 (tab := t11a) t11a_ok 30 (by decide) (by
  rw [row11_a]
  exact slCondX_of fun l hl hf hp => row11a_law (hl.trans (by decide)) hp (okX rfl))
theorem row11_b_ok : CanOk Try.prog relsX 10 (canSl 121 [some 57]) := can_of_condT hX2 hm2 (tab := t11b) t11b_ok 30 (by decide) (by
  rw [row11_b]
  exact slCondX_of fun l hl hf hp => row11b_law (rng_fits (hl.trans (by decide)) hf) (hl.trans (by decide)) hp (okX rfl))
theorem row11_c_ok : CanOk Try.prog relsX 10 (canSl 120 [some 1]) := can_of_condT hX2 hm2 (tab := t11c) t11c_ok 30 (by decide) (by
  rw [row11_c]
  exact slCondX_of fun l hl hf hp => row11c_law (hl.trans (by decide)) hp (okX rfl))
theorem row11_d_ok : CanOk Try.prog relsX 10 (canSl 121 [some 1]) := can_of_condT hX2 hm2 (tab := t11b) t11b_ok 30 (by decide) (by
  rw [row11_d]
  exact slCondX_of fun l hl hf hp => row11d_law (hl.trans (by decide)) hp (okX rfl))
theorem row11_n_ok : CanOk Try.prog relsX 10 (canN 118) := can_of_condT hX2 hm2 (tab := tabR4) tabX_ok 30 (by decide) (by
  rw [row11_n]
  exact slCondX_of fun l hl hf hp => row11n_law (by
    match l, hl with
    | [x], _ => exact hf 0 .i64 x rfl rfl) hp (okX rfl))
theorem row11_0_ok : CanOk Try.prog relsX 10 (canNil 90) := can_of_condT hX2 hm2 (tab := tabR4) tabX_ok 30 (by decide) (by
  rw [row11_0]
  exact fun _ => okX rfl)
end Go.Sx
