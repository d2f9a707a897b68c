/- The law of the candidate; p224Sqrt. -/
import Derived.Test.YtkjfcpeabdimmaaSqCand2
set_option linter.unusedVariables false
set_option linter.unusedSimpArgs false
set_option linter.constructorNameAsVariable false
set_option maxRecDepth 100000
set_option maxHeartbeats 4000000
namespace Go.Sx
open Go.Proofs Go.FP Go.EC
theorem g_bytes : rng 256 gBytes ∧ gBytes.length = 28 ∧ valB gBytes < pI ∧ tF (valB gBytes) = gF := by
  refine ⟨?_, rfl, by decide, by decide +kernel⟩
  simp only [gBytes, rng]
  decide
theorem sq_e1 : nth 0 (fopE sqOps [1, 1, 1, 1, 1]) 1 = 2 ^ 127 - 1 + 1 := by decide +kernel
theorem sq_e4 : nth 0 (fopE sqOps [1, 1, 1, 1, 1]) 4 = 2 ^ 127 - 1 + (2 ^ 127 - 1) + 1 := by decide +kernel
theorem sq_len : (fopE sqOps [1, 1, 1, 1, 1]).length = 5 := by decide +kernel
theorem sq_m : mulOnly sqOps = true := by decide +kernel
theorem sq_r : inRange 5 sqOps = true := by decide +kernel
theorem nth_getD {α : Type} {z : α} : ∀ (l : List α) (i : Nat), nth z l i = (l[i]?).getD z
  | [], i => by simp [nth]
  | a :: l, 0 => rfl
  | a :: l, i + 1 => by simp [nth, nth_getD l i]
theorem all_len {gs : List (List Int)} (h : ∀ j, j < gs.length → (nth c0 gs j).length = 4) : ∀ g ∈ gs, g.length = 4 := by
  intro g hg
  obtain ⟨j, hj⟩ := List.getElem?_of_mem hg
  have := h j (lt_of_some hj)
  rw [nth_getD, hj] at this
  exact this
theorem cand_law {l : List Int} (hl : l.length = 4) (hp : isSq l) : candVC l := by
  have hx : Elt l (dec64 l) := ⟨hl, hp.1, rfl⟩
  obtain ⟨ho, s, hs⟩ := hp
  obtain ⟨g1, g2, g3, g4⟩ := g_bytes
  refine callZ_of ⟨g1, g3⟩ fun e le he' => ?_
  have he : Elt e gF := ⟨le, he'.1, he'.2.trans g4⟩
  refine ggK_of 95 [] e rfl (fun j hj => absurd hj (Nat.not_lt_zero j)) he fun gs hlen hgs => ?_
  refine fop_of sqOps _ [dec64 l, dec64 l, dec64 l, dec64 l, dec64 l] ⟨hx, hx, hx, hx, hx, trivial⟩ fun s' hs' => ?_
  have h1 := hs'.nth elt0 1
  have h4 := hs'.nth elt0 4
  refine call4_2 10 (fun a b => a - b) rfl elt0 eltOne fun m1 hm1 => callZ_of ?_ fun _ _ h => h
  have o1 := (fpow_one (dec64 l)).symm
  have hP : Pows (dec64 l) [dec64 l, dec64 l, dec64 l, dec64 l, dec64 l] [1, 1, 1, 1, 1] := ⟨o1, o1, o1, o1, o1, trivial⟩
  have e1 := pows_run (n := 5) hP rfl sq_m sq_r (i := 1) (by rw [sq_len]; decide) sq_e1
  have e4 := pows_run (n := 5) hP rfl sq_m sq_r (i := 4) (by rw [sq_len]; decide) sq_e4
  rw [fpow_succ] at e1
  rw [fpow_succ, fpow_add] at e4
  rw [e1] at h1
  rw [e4] at h4
  exact mid_of (i := 95) hl ⟨ho, s, hs⟩ hlen (fun j hj => by simpa using hgs j (by omega)) (all_len fun j hj => (hgs j (by omega)).len) h1 h4 hm1 (RootInv.start hs)
theorem nth_gsAt {i : Nat} {l : List Int} (hi : i ≤ 95) {j : Nat} (h : 95 - i ≤ j) (h2 : j < 96) : nth c0 (gsAt i l) j = el4 l (2 + (j - (95 - i))) := by
  rw [nth_getD, gsAt, List.getElem?_append_right (by simpa using h)]
  simp only [List.length_map, List.length_range, List.getElem?_map]
  rw [List.getElem?_range (by omega)]
  rfl
theorem nth_dropL {gs : List (List Int)} (k j : Nat) : nth c0 (gs.drop k) j = nth c0 gs (k + j) := by
  rw [nth_getD, nth_getD, List.getElem?_drop]
theorem gsAt_len (i : Nat) (l : List Int) (hi : i ≤ 95) : (gsAt i l).length = 96 := by simp [gsAt]; omega
theorem midInv.parts {i : Nat} {l : List Int} (hi : i ≤ 95) (h : midInv i l) : ∀ j, 95 - i ≤ j → j < 96 → Elt (nth c0 (gsAt i l) j) (sqn gF j) := by
  intro j h1 h2
  rw [nth_gsAt hi h1 h2]
  have := h.2.1 (j - (95 - i)) (by omega)
  rw [show 95 - i + (j - (95 - i)) = j by omega] at this
  exact this
theorem part_law {id i m : Nat} {l : List Int} (hl : 4 ≤ l.length) (h : midInv i l) (hm : m ≤ i) (hi : i ≤ 95) (hid : relsQ2 id = relMid m) : roundsP (gsAt i l) (el4 l (3 + (i + 1))) (toHead id i m l) m (i - m) (el4 l 1) (el4 l (2 + (i + 1))) := by
  have hg := h.parts hi
  obtain ⟨hx, _, ⟨a, ha, c, hc, hI⟩, hm1⟩ := h
  have e0 : el4 l 0 = l.take 4 := by simp [el4]
  refine roundsP_of hg hm1 (i - m) _ _ a c (by omega) hi ha hc (by rw [show m + (i - m) = i by omega]; exact hI) fun r v a' c' hr hv hI' => ?_
  unfold toHead callZ
  rw [hid]
  refine ⟨?_, fun h => h⟩
  rw [e0] at hx hI'
  refine mid_of (i := m) (by simp; omega) hx (by rw [List.length_drop, gsAt_len i l hi]; omega) (fun j hj => ?_) (all_len fun j hj => ?_) hr hv hm1 hI'
  · rw [nth_dropL]
    exact hg _ (by omega) (by omega)
  · rw [List.length_drop, gsAt_len i l hi] at hj
    rw [nth_dropL]
    exact (hg _ (by omega) (by omega)).len
theorem last_law {l : List Int} (hl : 4 ≤ l.length) (h : midInv 32 l) : roundsP (gsAt 32 l) (el4 l 36) (fun r _ => (relsQ2 131).post (l.take 4) r) 0 32 (el4 l 1) (el4 l 35) := by
  have hg := h.parts (by omega)
  obtain ⟨hx, _, ⟨a, ha, c, hc, hI⟩, hm1⟩ := h
  have e0 : el4 l 0 = l.take 4 := by simp [el4]
  refine roundsP_of hg hm1 32 _ _ a c (by omega) (by omega) ha hc hI fun r v a' c' hr hv hI' => ?_
  rw [e0] at hI'
  show ok64 r ∧ dec64 r * dec64 r = dec64 (l.take 4)
  refine ⟨hr.ok, ?_⟩
  rw [hr.dec]
  exact hI'.fin
theorem body113_eq : Try.f113.body = some body113 := by kernel_rfl
theorem seg3 : RestLoop Try.prog relsQ2 Try.f113 canCand (csR 135 32) 16 loop113 := loop_of hX2 hm2 (tab := tabC) tabC_ok 120 sqStrat_ok (next := none) trivial (by
  rw [c3_cond]
  exact alln_len _ fun l hl hp => last_law (by omega) hp)
theorem seg2 : RestLoop Try.prog relsQ2 Try.f113 canCand (csR 134 64) 16 loop113 := loop_of hX2 hm2 (tab := tabC) tabC_ok 120 sqStrat_ok (next := some (csR 135 32, isAt 32)) seg3 (by
  rw [c2_cond]
  exact alln_len _ fun l hl hp => part_law (i := 64) (m := 32) (by omega) hp (by omega) (by omega) rfl)
theorem seg1 : RestOk Try.prog relsQ2 Try.f113 canCand csQ (restC 32 body113) := by
  rw [rest113_eq]
  exact head_of hX2 hm2 (tab := tabC) tabC_ok 120 sqStrat_ok (next := some (csR 134 64, isAt 64)) seg2 (by
    rw [c1_cond]
    exact alln_len _ fun l hl hp => part_law (i := 95) (m := 64) (by omega) hp (by omega) (by omega) rfl)
theorem noStrat : ∀ (c : Code) (st : St) (cs : LoopS), (fun (_ : Code) (_ : St) => (none : Option LoopS)) c st = some cs → CutOk relsQ2 cs.sel.length cs.n cs.id := fun c st cs h => by cases h
theorem cand_con : ConOk Try.prog relsQ2 113 canCand.con := con_of_can (can_of_condS hX2 hm2 (tab := tabC) tabC_ok (strat := fun _ _ => none) (cs := csQ) (k := 32) 9 Try.func113 body113_eq (by decide) noStrat seg1 (by
  rw [cand1_cond]
  exact inp_of _ _ _ _ fun l hl => rngs_of _ _ fun _ hp => cand_law hl hp))
def canSqrt : Can := { id := 129, kinds := ks .u64 4, args := [pt 0, pt 0], hp := [rw_ (vs .u64 0 4)], outs := ks .u64 4, res := .one (.s (.bool true)), hpE := [vs .u64 4 4], new := [] }
def tabC2 : List (FuncId × Con) := (113, canCand.con) :: tabC
theorem tabC2_ok : ∀ f con, (f, con) ∈ tabC2 → ConOk Try.prog relsQ2 f con := tabCons cand_con tabC_ok
def sqrtVC (Q : List Int → Prop) (l : List Int) : Prop := callZ 131 4 l fun r => callK 7 4 r fun s => callU 15 1 (s ++ l) (one1 fun q => neqK q 1 False (Q r))
theorem sqrt_cond : Can.condT canSqrt Try.prog X2 tabC2 relsQ2 103 9 = inp 4 0 18446744073709551615 (fun l => rngs 0 18446744073709551615 l ((relsQ2 129).pre l → sqrtVC (fun o => (relsQ2 129).post l o) l)) := by kernel_rfl
theorem sqrt_con : ConOk Try.prog relsQ2 103 canSqrt.con := con_of_can (can_of_condT hX2 hm2 (tab := tabC2) tabC2_ok 9 (by decide) (by
  rw [sqrt_cond]
  refine inp_of _ _ _ _ fun l hl => rngs_of _ _ fun _ hp => callZ_of hp fun r lr hr => ?_
  obtain ⟨or, er⟩ : ok64 r ∧ dec64 r * dec64 r = dec64 l := hr
  refine call4_1 7 (fun a => a * a) rfl ⟨lr, or, rfl⟩ fun s hs => callU_of ⟨by rw [take_app hs.len]; exact hs.ok, by rw [drop_app hs.len]; exact hp.1⟩ fun o lo ho => ?_
  have ho' : isB o (dec64 ((s ++ l).take 4) = dec64 ((s ++ l).drop 4)) := ho
  rw [take_app hs.len, drop_app hs.len, hs.dec] at ho'
  match o, lo with
  | [q], _ =>
    have e1 : q = 1 := ho'.1 er
    exact neqK_of (fun k => k e1) fun _ => ⟨or, er⟩))
end Go.Sx
