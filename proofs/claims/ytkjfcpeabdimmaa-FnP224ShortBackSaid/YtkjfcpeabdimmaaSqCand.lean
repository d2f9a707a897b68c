/- p224SqrtCandidate, p224Sqrt. -/
import Derived.Test.YtkjfcpeabdimmaaSqLaw
set_option linter.unusedVariables false
set_option linter.unusedSimpArgs false
set_option linter.constructorNameAsVariable false
set_option maxRecDepth 100000
set_option maxHeartbeats 4000000
namespace Go.Sx
open Go.Proofs Go.FP Go.EC
def firstId : Code → Nat
  | .seq a _ => firstId a
  | .region id _ _ => id
  | .block _ b => firstId b
  | _ => 0
def u64s : List Sc → Option (List Src)
  | [] => some []
  | c :: cs => match srcK c, u64s cs with
    | some (.u64, s), some l => some (s :: l)
    | _, _ => none
def keepT (fr : Tr AV) : List Tmp → List (Tmp × AV)
  | [] => []
  | t :: l => match fr.get t with
    | some v => (t, v) :: keepT fr l
    | none => keepT fr l
def undK : Nat → List Sc → (List Sc → Option LoopS) → Option LoopS
  | 0, l, c => c l
  | n + 1, _ :: l, c => undK n l fun l => c (.und :: l)
  | _ + 1, [], c => c []
/-- What is kept of memory: the regions of the list; of region g the cells from k on; the region w new. -/
def keepK (ls : List Nat) (g k w : Nat) (new : List Sc) : List Reg → Nat → (List Reg → Option LoopS) → Option LoopS
  | [], _, c => c []
  | ⟨cs, rw, _, _⟩ :: l, j, c => forceK (j + 1) fun j' =>
    if j = w then keepK ls g k w new l j' fun l => c (⟨new, rw, none, none⟩ :: l)
    else if j = g then undK k cs fun cs => keepK ls g k w new l j' fun l => c (⟨cs, rw, none, none⟩ :: l)
    else if ls.contains j then keepK ls g k w new l j' fun l => c (⟨cs, rw, none, none⟩ :: l)
    else keepK ls g k w new l j' fun l => c (⟨[], rw, none, none⟩ :: l)
def ptrsK (fr : Tr AV) : List Tmp → (List Nat → Option LoopS) → Option LoopS
  | [], c => c []
  | t :: l, c => match fr.get t with
    | some (.one (.s (.ptr r _))) => ptrsK fr l fun l => c (r :: l)
    | _ => ptrsK fr l c
def keepTK (fr : Tr AV) : List Tmp → (List (Tmp × AV) → Option LoopS) → Option LoopS
  | [], c => c []
  | t :: l, c => match fr.get t with
    | some v => keepTK fr l fun l => c ((t, v) :: l)
    | none => keepTK fr l c
def forceI (n : Int) (k : Int → Option LoopS) : Option LoopS := match n with
  | .ofNat m => forceK m fun m => k (.ofNat m)
  | .negSucc m => none
/-- The inner loop of the rounds. -/
def sqStrat (b : Code) (st : St) : Option LoopS :=
  if firstId b = 64 then (match st.fr.get 15, st.fr.get 18, st.fr.get 17, st.fr.get 4 with
    | some (.one (.s (.ptr v 0))), some (.one (.s (.ptr w 0))), some (.one (.s (.int .i64 i))), some (.one (.s (.ptr g 0))) => match st.hp[v]? with
      | some gv => match u64s gv.cs with
        | some [a0, a1, a2, a3] => forceI (i - 1) fun i1 => forceK (4 * (95 - i.toNat)) fun k => forceK st.nv fun b0 => forceK (st.nv + 1) fun b1 => forceK (st.nv + 2) fun b2 => forceK (st.nv + 3) fun b3 => forceK (st.nv + 4) fun b4 =>
          ptrsK st.fr [0, 1, 6, 15, 16] fun ls => keepTK st.fr [0, 1, 4, 6, 15, 16, 17, 18] fun fr => keepK ls g k w [.var .u64 b1, .var .u64 b2, .var .u64 b3, .var .u64 b4] st.hp 0 fun hp =>
            some { id := 130, sel := [.c i1, a0, a1, a2, a3], fr := (19, .one (.s (.var .i64 b0))) :: fr, hp := hp, n := 5, w := w }
        | _ => none
      | none => none
    | _, _, _, _ => none) else none
theorem undK_spec : ∀ (n : Nat) (l : List Sc), ∃ l', ∀ c, undK n l c = c l'
  | 0, l => ⟨l, fun _ => rfl⟩
  | n + 1, a :: l => by
    obtain ⟨l', h⟩ := undK_spec n l
    exact ⟨.und :: l', fun c => h _⟩
  | _ + 1, [] => ⟨[], fun _ => rfl⟩
theorem keepK_spec {ls : List Nat} {g k w : Nat} {new : List Sc} : ∀ (l : List Reg) (j : Nat), ∃ l', ∀ c, keepK ls g k w new l j c = c l'
  | [], j => ⟨[], fun _ => rfl⟩
  | ⟨cs, rw, _, _⟩ :: l, j => by
    obtain ⟨l', h⟩ := keepK_spec (ls := ls) (g := g) (k := k) (w := w) (new := new) l (j + 1)
    obtain ⟨cs', hc⟩ := undK_spec k cs
    by_cases h1 : j = w
    · exact ⟨⟨new, rw, none, none⟩ :: l', fun c => by simp only [keepK, forceK_spec, if_pos h1, h]⟩
    · by_cases h2 : j = g
      · exact ⟨⟨cs', rw, none, none⟩ :: l', fun c => by simp only [keepK, forceK_spec, if_neg h1, if_pos h2, hc, h]⟩
      · cases h3 : ls.contains j with
        | true => exact ⟨⟨cs, rw, none, none⟩ :: l', fun c => by simp only [keepK, forceK_spec, if_neg h1, if_neg h2, h3, if_true, h]⟩
        | false => exact ⟨⟨[], rw, none, none⟩ :: l', fun c => by simp only [keepK, forceK_spec, if_neg h1, if_neg h2, h3, Bool.false_eq_true, if_false, h]⟩
theorem ptrsK_spec (fr : Tr AV) : ∀ (l : List Tmp), ∃ l', ∀ c, ptrsK fr l c = c l'
  | [] => ⟨[], fun _ => rfl⟩
  | t :: l => by
    obtain ⟨l', h⟩ := ptrsK_spec fr l
    unfold ptrsK
    split
    · exact ⟨_, fun c => h _⟩
    · exact ⟨_, fun c => h _⟩
theorem keepTK_spec (fr : Tr AV) : ∀ (l : List Tmp), ∃ l', ∀ c, keepTK fr l c = c l'
  | [] => ⟨[], fun _ => rfl⟩
  | t :: l => by
    obtain ⟨l', h⟩ := keepTK_spec fr l
    unfold keepTK
    split
    · exact ⟨_, fun c => h _⟩
    · exact ⟨_, fun c => h _⟩
theorem forceI_some {n : Int} {k : Int → Option LoopS} {cs : LoopS} (h : forceI n k = some cs) : ∃ m, k m = some cs := by
  unfold forceI at h
  split at h
  · rw [forceK_spec] at h
    exact ⟨_, h⟩
  · cases h
theorem sqStrat_ok : ∀ c st cs, sqStrat c st = some cs → CutOk relsQ2 cs.sel.length cs.n cs.id := by
  intro c st cs h
  unfold sqStrat at h
  split at h
  · split at h
    · rename_i g _ _ _ _
      split at h
      · split at h
        · obtain ⟨m, h⟩ := forceI_some h
          simp only [forceK_spec] at h
          obtain ⟨l1, e1⟩ := ptrsK_spec st.fr [0, 1, 6, 15, 16]
          rw [e1] at h
          obtain ⟨l2, e2⟩ := keepTK_spec st.fr [0, 1, 4, 6, 15, 16, 17, 18]
          rw [e2] at h
          obtain ⟨l3, e3⟩ := keepK_spec (ls := l1) st.hp 0
          rw [e3] at h
          obtain rfl := Option.some.inj h
          exact cut130
        · cases h
      · cases h
    · cases h
  · cases h
def gBytes : List Int := [0x6a, 0x0f, 0xec, 0x67, 0x85, 0x98, 0xa7, 0x92, 0x0c, 0x55, 0xb2, 0xd4, 0x0b, 0x2d, 0x6f, 0xfb, 0xbe, 0xa3, 0xd8, 0xce, 0xf3, 0xfb, 0x36, 0x32, 0xdc, 0x69, 0x1b, 0x74]
-- registers: 0 x, 1 r, 2 t0, 3 t1, 4 v
def sqOps : List Fop := [(1, 1, 0, 0), (0, 1, 1, 0), (1, 1, 1, 1), (0, 1, 1, 0), (1, 2, 1, 1)] ++ (repOp 2 (1, 2, 2, 2) ++ ([(0, 2, 2, 1), (1, 3, 2, 2), (0, 1, 0, 3)] ++ (repOp 5 (1, 3, 3, 3) ++ ([(0, 2, 2, 3), (1, 3, 2, 2)] ++ (repOp 11 (1, 3, 3, 3) ++
  ([(0, 2, 2, 3), (1, 3, 2, 2)] ++ (repOp 6 (1, 3, 3, 3) ++ ((0, 1, 1, 3) :: (repOp 17 (1, 3, 3, 3) ++ ([(0, 2, 2, 3), (1, 3, 2, 2)] ++ (repOp 47 (1, 3, 3, 3) ++ ((0, 2, 2, 3) :: (repOp 31 (1, 2, 2, 2) ++ [(0, 1, 1, 2), (1, 4, 1, 1), (0, 4, 4, 0), (0, 1, 1, 0)])))))))))))))
def candVC (l : List Int) : Prop :=
  callZ 132 4 gBytes fun e => ggK (fun gs => fopVC (fun s => callK 10 4 (c0 ++ eOne) fun m1 => callZ 1133 0 (l ++ (nth c0 s 1 ++ (gs.flatten ++ (nth c0 s 4 ++ m1)))) fun _ => False) sqOps [l, l, l, l, l]) 95 [] e
def csQ : CutS := { id := 133, fr := [(0, pt 0), (1, pt 1), (4, pt 2), (6, pt 3), (15, pt 4), (16, pt 5)], hp := [rw_ (vs .u64 4 4), ro (vs .u64 0 4), rw_ (vs .u64 8 384), rw_ (us 4), rw_ (vs .u64 392 4), rw_ (vs .u64 396 4)], n := 396 }
noncomputable def body113 : Code := match Try.f113.body with
  | some c => c
  | none => .skip
def canCand : Can := { id := 131, kinds := ks .u64 4, args := [pt 0, pt 1], hp := [rw_ (us 4), ro (vs .u64 0 4)], outs := ks .u64 4, res := .tup [], hpE := [vs .u64 4 4, vs .u64 0 4], new := [] }
theorem tabUL_ok : ∀ f con, (f, con) ∈ tabU → ConOk Try.prog relsL f con := tabL_W (by decide) fun f con h =>
  tabWr0_ok f con (List.mem_append_right _ (List.mem_append_right _ (List.mem_cons_of_mem _ (List.mem_append_right _ (List.mem_append_right _ (List.mem_append_right _ h))))))
theorem tabQ2_L {t : List (FuncId × Con)} (h0 : (t.all fun x => x.2.id != 130 && x.2.id != 1130 && x.2.id != 131 && x.2.id != 129 && x.2.id != 132 && x.2.id != 1133 && x.2.id != 1134 && x.2.id != 1135) = true) (h : ∀ f con, (f, con) ∈ t → ConOk Try.prog relsL f con) : ∀ f con, (f, con) ∈ t → ConOk Try.prog relsQ2 f con := by
  intro f con hm
  have := List.all_eq_true.1 h0 _ hm
  simp only [Bool.and_eq_true, bne_iff_ne, ne_eq] at this
  exact (h f con hm).lift (by simp [relsQ2, this])
def canSet : Can := { id := 132, kinds := ks .u8 28, args := [pt 0, .one (.s (.sliceU 1 0 28))], hp := [rw_ (us 4), ro (vs .u8 0 28)], outs := ks .u64 4, res := .tup [.s (.ptr 0 0), .s .nilIface], hpE := [vs .u64 28 4, vs .u8 0 28], new := [] }
theorem tabU2_ok : ∀ f con, (f, con) ∈ tabU → ConOk Try.prog relsQ2 f con := tabQ2_L (by decide) tabUL_ok
theorem set_cond : Can.condT canSet Try.prog X2 tabU relsQ2 77 9 = inp 28 0 255 (fun l => rngs 0 255 l ((relsQ2 132).pre l → setU l False fun e => (relsQ2 132).post l e)) := by kernel_rfl
theorem set_con : ConOk Try.prog relsQ2 77 canSet.con := con_of_can (can_of_condT hX2 hm2 (tab := tabU) tabU2_ok 9 (by decide) (by
  rw [set_cond]
  refine inp_of _ _ _ _ fun l hl => rngs_of _ _ fun _ hp => ?_
  obtain ⟨hr, hv⟩ : rng 256 l ∧ valB l < pI := hp
  exact setU_of hr hl (fun k => (k hv).elim) fun _ e he => ⟨he.ok, he.dec⟩))
def tabC : List (FuncId × Con) := (77, canSet.con) :: (85, canSelI.con) :: tabU
theorem tabC_ok : ∀ f con, (f, con) ∈ tabC → ConOk Try.prog relsQ2 f con := tabCons set_con (tabQ2_L (by decide) (tabCons selI_con tabUL_ok))
theorem cand1_cond : Can.condS canCand Try.prog X2 tabC relsQ2 (fun _ _ => none) csQ 32 113 9 = inp 4 0 18446744073709551615 (fun l => rngs 0 18446744073709551615 l ((relsQ2 131).pre l → candVC l)) := by kernel_rfl
end Go.Sx
