/- ScalarMult: its contract. -/
import Derived.Test.YtkjfcpeabdimmaaPtSM1
import Derived.Test.YtkjfcpeabdimmaaPtSM2
import Derived.Test.YtkjfcpeabdimmaaPtSM3
import Derived.Test.YtkjfcpeabdimmaaPtSM4
import Derived.Test.YtkjfcpeabdimmaaPtSMLaw
set_option linter.unusedVariables false
set_option linter.unusedSimpArgs false
set_option linter.constructorNameAsVariable false
set_option maxRecDepth 100000
set_option maxHeartbeats 4000000
namespace Go.Sx
open Go.Proofs Go.FP Go.EC
theorem tabSM_ok : ∀ f con, (f, con) ∈ tabSM → ConOk Try.prog relsSm f con := tabCons (padd_con.lift rfl) (tabCons (paddI_con.lift rfl) (tabCons (pdbl_con.lift rfl) (tabCons (pdblI_con.lift rfl) (tabCons (tab_con.lift rfl) (fun f con h => by cases h)))))
theorem noL_ok : ∀ c st cs, noL c st = some cs → CutOk relsSm cs.sel.length cs.n cs.id := fun c st cs h => by cases h
theorem bytes_at {l : List Int} (hl : 40 ≤ l.length) : ((l.take 40).drop 12).length = 28 ∧ ∀ i, i < 28 → nth 0 l (12 + i) = nth 0 ((l.take 40).drop 12) i := by
  refine ⟨by simp; omega, fun i hi => ?_⟩
  rw [nthD, nthD, List.getElem?_drop, List.getElem?_take, if_pos (by omega)]
theorem one_pt {T : Tri p} {P Q : Pt p} (h1 : Rep bF T P) (h2 : Rep bF T Q) : P = Q := EC.rep_eq good rfl rfl h1 h2
theorem next_eq {l o : List Int} (hl : 52 ≤ l.length) (lo : o.length = 12) : (l.take 40 ++ (o ++ l.drop 52)).take 40 = l.take 40 ∧ accOf (l.take 40 ++ (o ++ l.drop 52)) = o ∧ tabOf (l.take 40 ++ (o ++ l.drop 52)) = tabOf l := by
  have l40 : (l.take 40).length = 40 := by simp; omega
  refine ⟨take_app l40, ?_, ?_⟩
  · unfold accOf
    rw [drop_app l40, take_app lo]
  · unfold tabOf
    refine List.map_congr_left fun k _ => ?_
    rw [show 52 + 12 * k = 40 + (12 + 12 * k) by omega, ← List.drop_drop, drop_app l40, ← List.drop_drop (l := o ++ l.drop 52), drop_app lo, List.drop_drop, show 40 + (12 + 12 * k) = 52 + 12 * k by omega]
theorem toS_of {id e : Nat} {l o : List Int} {P : Pt p} (hid : relsSm id = relSMid e) (hl : 52 ≤ l.length) (hp : smPre (l.take 40)) (hP : Rep bF (tri3 (l.take 40) 0) P) (hT : TabR P (tabOf l)) (ho : PtR o (nmul iv P (valB (((l.take 40).drop 12).take e)).toNat)) : toS id l o := by
  obtain ⟨e1, e2, e3⟩ := next_eq hl ho.1
  refine callS_of ?_ fun _ _ h => ?_
  · rw [hid]
    show smPre ((l.take 40 ++ (o ++ l.drop 52)).take 40) ∧ ∀ P, Rep bF (tri3 ((l.take 40 ++ (o ++ l.drop 52)).take 40) 0) P → TabR P (tabOf (l.take 40 ++ (o ++ l.drop 52))) ∧ PtR (accOf (l.take 40 ++ (o ++ l.drop 52))) (nmul iv P (valB ((((l.take 40 ++ (o ++ l.drop 52)).take 40).drop 12).take e)).toNat)
    rw [e1, e2, e3]
    refine ⟨hp, fun Q hQ => ?_⟩
    rw [one_pt hQ hP]
    exact ⟨hT, ho⟩
  · rw [hid] at h
    exact h
theorem partS {id i e n : Nat} {l : List Int} (hid : relsSm id = relSMid e) (hl : l.length = 232) (h : (relSMid i).pre l) (hi : i + n = e) (he : e ≤ 28) : smVC (tabOf l) l (toS id l) n i (accOf l) := by
  obtain ⟨hp, hR⟩ := h
  obtain ⟨hr, ho, P, hP⟩ := hp
  obtain ⟨hT, hA⟩ := hR P hP
  obtain ⟨b1, b2⟩ := bytes_at (l := l) (by omega)
  exact smR (rep_on hP) hT (by simp [tabOf]) b1 hr b2 he (fun o h => toS_of hid (by omega) ⟨hr, ho, P, hP⟩ hP hT h) n i _ hi hA
theorem lastS {l : List Int} (hl : l.length = 232) (h : (relSMid 21).pre l) : smVC (tabOf l) l (fun s => (relsSm 152).post (l.take 40) s) 7 21 (accOf l) := by
  obtain ⟨⟨hr, ho, P, hP⟩, hR⟩ := h
  obtain ⟨hT, hA⟩ := hR P hP
  obtain ⟨b1, b2⟩ := bytes_at (l := l) (by omega)
  refine smR (rep_on hP) hT (by simp [tabOf]) b1 hr b2 (e := 28) (by omega) (fun o h => ?_) 7 21 _ rfl hA
  rw [List.take_of_length_le (by omega)] at h
  refine ⟨h.2.1, fun Q hQ => ?_⟩
  rw [one_pt hQ hP]
  exact h.2.2
theorem firstS {l : List Int} (hl : l.length = 232) (h : (relSMid 0).pre l) : byteVC (tabOf l) (nth 0 l 12) (accOf l) fun s => smVC (tabOf l) l (toS 1155 l) 6 1 s := by
  obtain ⟨⟨hr, ho, P, hP⟩, hR⟩ := h
  obtain ⟨hT, hA⟩ := hR P hP
  obtain ⟨b1, b2⟩ := bytes_at (l := l) (by omega)
  have hb := byteB hr (i := 0) (by omega)
  rw [show nth 0 l 12 = nth 0 ((l.take 40).drop 12) 0 from b2 0 (by omega)]
  have hA' : PtR (accOf l) (nmul iv P (16 * 0)) := hA
  generalize hm : (l.take 40).drop 12 = m at *
  rw [show nth 0 m 0 = (((nth 0 m 0).toNat : Nat) : Int) by omega]
  refine byteR (rep_on hP) hT (by simp [tabOf]) (by omega) hA' fun s hs => ?_
  refine smR (rep_on hP) hT (by simp [tabOf]) b1 hr b2 (e := 7) (by omega) (fun o h => toS_of rfl (by omega) ⟨by rw [hm]; exact hr, ho, P, hP⟩ hP hT (by rw [hm]; exact h)) 6 1 s rfl ?_
  rw [val_next (by rw [List.take_of_length_le (by omega)]; exact hr) (by omega) (by omega)]
  exact hs
theorem el4_t {l : List Int} {j : Nat} (hj : j < 3) : el4 (l.take 12) j = el4 l j := by
  unfold el4
  rw [List.drop_take, List.take_take, show min 4 (12 - 4 * j) = 4 by omega]
theorem nth_map15 {f : Nat → List Int} {j : Nat} (h : j < 15) : nth [] ((List.range 15).map f) j = f j := by
  rw [nthD, List.getElem?_map, List.getElem?_range h]
  rfl
theorem tblS {l : List Int} (hl : l.length = 40) (h : smPre l) : tblVC (l.take 12) (fun T => callS 1154 0 (l ++ (far12 ++ T.flatten)) fun _ => False) 7 [l.take 12] := by
  obtain ⟨hr, ho, P, hP⟩ := h
  have a0 : el4 (l.take 12) 0 = el4 l 0 := el4_t (by decide)
  have a1 : el4 (l.take 12) 1 = el4 l 1 := el4_t (by decide)
  have a2 : el4 (l.take 12) 2 = el4 l 2 := el4_t (by decide)
  have t1 : tri3 (l.take 12) 0 = tri3 l 0 := by simp only [tri3, Nat.zero_add, a0, a1, a2]
  have k1 : ok3 (l.take 12) 0 := by simpa only [ok3, Nat.zero_add, a0, a1, a2] using ho
  have hq : PtR (l.take 12) P := ⟨by simp; omega, k1, by rw [t1]; exact hP⟩
  refine tblR (rep_on hP) hq (fun T lT hT => ?_) 7 [l.take 12] rfl fun j hj => ?_
  · refine callS_of ?_ fun _ _ h => h
    have e1 : (l ++ (far12 ++ T.flatten)).take 40 = l := take_app hl
    have e2 : accOf (l ++ (far12 ++ T.flatten)) = far12 := by
      unfold accOf
      rw [drop_app hl, take_app (by rfl)]
    have e3 : ∀ j, j < 15 → nth [] (tabOf (l ++ (far12 ++ T.flatten))) j = nth [] T j := fun j hj => by
      rw [tabOf, nth_map15 hj, show 52 + 12 * j = 40 + (12 + 12 * j) by omega, ← List.drop_drop, drop_app hl, ← List.drop_drop, drop_app (by rfl)]
      exact flat_at T j (fun i hi => (hT i hi).1) (by omega)
    show smPre ((l ++ (far12 ++ T.flatten)).take 40) ∧ ∀ P, Rep bF (tri3 ((l ++ (far12 ++ T.flatten)).take 40) 0) P → TabR P (tabOf (l ++ (far12 ++ T.flatten))) ∧ PtR (accOf (l ++ (far12 ++ T.flatten))) (nmul iv P (valB ((((l ++ (far12 ++ T.flatten)).take 40).drop 12).take 0)).toNat)
    rw [e1, e2]
    refine ⟨⟨hr, ho, P, hP⟩, fun Q hQ => ?_⟩
    rw [one_pt hQ hP]
    refine ⟨fun j hj => ?_, far12_R⟩
    have hj' : j < 15 := by simpa [tabOf] using hj
    rw [e3 j hj']
    exact hT j (by omega)
  · have e0 : j = 0 := by
      have : j < 1 := hj
      omega
    subst e0
    rw [nmul_one]
    exact hq
theorem seg55d : RestLoopT Try.prog relsSm Try.f55 canSM (csP 157 21) 2 loop55 tail55 := loop_ofT hX2 hm2 (tab := tabSM) tabSM_ok 120 noL_ok (next := none) trivial (by
  rw [sm6_cond]
  exact alln_len _ fun l hl hp => lastS hl hp)
theorem seg55c : RestLoopT Try.prog relsSm Try.f55 canSM (csP 156 14) 2 loop55 tail55 := loop_ofT hX2 hm2 (tab := tabSM) tabSM_ok 120 noL_ok (next := some (csP 157 21, isAt61 21)) seg55d (by
  rw [sm5_cond]
  exact alln_len _ fun l hl hp => partS rfl hl hp rfl (by omega))
theorem seg55b : RestLoopT Try.prog relsSm Try.f55 canSM (csP 155 7) 2 loop55 tail55 := loop_ofT hX2 hm2 (tab := tabSM) tabSM_ok 120 noL_ok (next := some (csP 156 14, isAt61 14)) seg55c (by
  rw [sm4_cond]
  exact alln_len _ fun l hl hp => partS rfl hl hp rfl (by omega))
theorem seg55a : RestOk Try.prog relsSm Try.f55 canSM (csU 154 []) (.seq (.seq head55 (.block 2 (.loop loop55))) tail55) := head_ofT hX2 hm2 (tab := tabSM) tabSM_ok 120 noL_ok (next := some (csP 155 7, isAt61 7)) seg55b (by
  rw [sm3_cond]
  exact alln_len _ fun l hl hp => firstS hl hp)
theorem rest55_eq2 : restC 4 (restC 2 body55) = .seq (.seq head55 (.block 2 (.loop loop55))) tail55 := by kernel_rfl
theorem seg55 : RestOk Try.prog relsSm Try.f55 canSM csT (restC 2 body55) := part_of hX2 hm2 (tab := tabSM) tabSM_ok (cs' := csU 154 []) (k := 4) 20 noL_ok (by rw [rest55_eq2]; exact seg55a) (by
  rw [sm2_cond]
  exact alln_len _ fun l hl hp => tblS hl hp)
theorem body55_eq : Try.f55.body = some body55 := by kernel_rfl
theorem noStratS : ∀ (c : Code) (st : St) (cs : LoopS), (fun (_ : Code) (_ : St) => (none : Option LoopS)) c st = some cs → CutOk relsSm cs.sel.length cs.n cs.id := fun c st cs h => by cases h
theorem sm_con : ConOk Try.prog relsSm 55 canSM.con := con_of_can (can_of_condS hX2 hm2 (tab := []) (fun f con h => by cases h) (strat := fun _ _ => none) (cs := csT) (k := 2) 9 Try.func55 body55_eq (by decide) noStratS seg55 (by
  rw [sm1_cond]
  exact alln_len _ fun l hl => fitsC_intro _ _ fun hp => callS_of hp fun _ _ h => h))
end Go.Sx
