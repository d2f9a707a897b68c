/- FnP224ProjKept: for every three coordinates the law answers true. -/
import Derived.Test.YtkjfcpeabdimmaaRow1Far
import Derived.Test.YtkjfcpeabdimmaaJoinAll
import Derived.Test.YtkjfcpeabdimmaaRows
set_option linter.unusedVariables false
set_option linter.unusedSimpArgs false
set_option linter.constructorNameAsVariable false
namespace Go.Proofs.Ytkjfcpeabdimmaa.row1
open Go Go.ChangeShapes Go.WideShapes Go.ChangeAt Go.RowKit Go.Sx

theorem own : ownKnob Try.prog.godebug = none := by kernel_rfl

theorem ints_of {l : List Value} (h : ∀ v ∈ l, ∃ n : Int, v = .int .u8 n ∧ 0 ≤ n ∧ n ≤ 255) : ∃ xs : List Int, l = xs.map (Value.int .u8) ∧ ∀ x ∈ xs, 0 ≤ x ∧ x ≤ 255 := by
  induction l with
  | nil => exact ⟨[], rfl, by simp⟩
  | cons v l ih =>
    obtain ⟨n, rfl, hn⟩ := h v (by simp)
    obtain ⟨xs, rfl, hx⟩ := ih fun v hv => h v (by simp [hv])
    exact ⟨n :: xs, rfl, fun x hx' => by
      rcases List.mem_cons.1 hx' with e | e
      · exact e ▸ hn
      · exact hx x e⟩

theorem types24 : Try.prog.cellTypes Try.prog.depth 24 = some (List.replicate 84 5) := by kernel_rfl
theorem cells24 : Try.prog.cellsOf 24 = 84 := by kernel_rfl

set_option maxRecDepth 100000 in
theorem open24 {W : World} {base : Nat} {v : Value} (h : Value.okWide Try.prog W .any base 24 v) : ∃ xs : List Int, v = .agg (xs.map (Value.int .u8)).toArray ∧ xs.length = 84 ∧ ∀ x ∈ xs, 0 ≤ x ∧ x ≤ 255 := by
  unfold Value.okWide at h
  rw [Try.underlying24] at h
  obtain ⟨cs, rfl, hs, ts, hts, _, hc⟩ := h
  rw [types24] at hts
  obtain rfl := Option.some.inj hts
  rw [cells24] at hs
  obtain ⟨xs, hx, hr⟩ := ints_of (l := cs.toList) fun v hv => by
    obtain ⟨i, hi⟩ := List.getElem?_of_mem hv
    obtain ⟨u, hu, hk⟩ := hc i v (by simpa using hi)
    have : u = 5 := by
      have := List.mem_of_getElem? hu
      exact List.eq_of_mem_replicate this
    subst this
    unfold Cell.okWide at hk
    rw [Try.underlying5] at hk
    simp only [Cell.ok, Try.underlying5] at hk
    cases v <;> simp_all [IntKind.has, IntKind.min, IntKind.max, IntKind.signed, IntKind.bits]
  refine ⟨xs, ?_, ?_, hr⟩
  · rw [← hx]
  · have := congrArg List.length hx
    simp [hs] at this
    exact this.symm

theorem walk {xs : List Int} (hl : xs.length = 84) (hx : ∀ x ∈ xs, 0 ≤ x ∧ x ≤ 255) (W : World) :
    Calls Try.prog 3 #[.agg (xs.map (Value.int .u8)).toArray] W fun e W' => e = .returned (.bool true) ∧ Below W.heap.size W W' := by
  have key : ∀ id : Nat, CanOk Try.prog relsW 3 (canRowW id) → (relsW id).post = postRow → (relsW id).pre xs →
      Calls Try.prog 3 #[.agg (xs.map (Value.int .u8)).toArray] W fun e W' => e = .returned (.bool true) ∧ Below W.heap.size W W' := fun id hC hpost hp => by
    have hM : Mem (canOld [] []) xs [] [] W W := ⟨rfl, by simp, by simp, by simp, by simp, Keep.refl _ _, by simp, by simp, by simp⟩
    have hR : All2 (AV.R xs []) [agg3] [.agg (xs.map (Value.int .u8)).toArray] := by
      refine ⟨⟨xs.map (Value.int .u8), rfl, ?_⟩, trivial⟩
      refine All2.of_get (by simp [vs, hl]) fun i c v hc hv => ?_
      simp only [vs, List.getElem?_map, List.getElem?_range] at hc hv
      cases hi : xs[i]? with
      | none => rw [hi] at hv; cases hv
      | some n =>
        rw [hi] at hv
        obtain rfl := Option.some.inj hv
        have hlt := lt_of_some hi
        rw [hl] at hlt
        have hn := hx n (List.mem_of_getElem? hi)
        rw [List.getElem?_range hlt] at hc
        obtain rfl := Option.some.inj hc
        exact ⟨n, by simpa using hi, rfl, hn⟩
    refine (hC W xs [] [.agg (xs.map (Value.int .u8)).toArray] hM (by rw [hl]; rfl) hR hp).mono fun e W' he => ?_
    obtain ⟨v, outs, nb, rfl, hP⟩ := he
    have hpo := hP.post
    rw [show (canRowW id).id = id from rfl, hpost] at hpo
    match outs, hpo with
    | [r], hr =>
      obtain ⟨n, hn, hv⟩ : ∃ n, (xs ++ [r])[84]? = some n ∧ v = .bool (n != 0) := hP.res
      have : n = r := by
        rw [List.getElem?_append_right (by omega), hl] at hn
        simpa using hn.symm
      subst this
      have hr' : n ≠ 0 := hr
      refine ⟨by rw [hv]; simp [hr'], hP.keep.below fun k i _ h => ?_⟩
      obtain ⟨j, g, x, h1, _⟩ := h
      simp [canRowW] at h1
  by_cases hin : inP xs
  · by_cases hz : hZ xs = 0
    · exact key 92 row1I_ok rfl ⟨hin, hz⟩
    · exact key 91 row1F_ok rfl ⟨hin, hz⟩
  · exact key 93 row1B_ok rfl hin

theorem laid : laidOutB Try.prog = true := by kernel_rfl
theorem read24 : ∀ t ∈ Try.f3.params.toList, Try.prog.readableRec t = true ∧ t < Try.prog.types.size := by
  rw [Try.params3]
  intro t ht
  obtain rfl : t = 24 := by simpa using ht
  exact ⟨by kernel_rfl, of_decide_eq_true (by kernel_rfl)⟩

set_option maxRecDepth 100000 in
theorem lifted (os : Os) (started : os.Started) (H : Type) (enc : TypeId × Value → H) :
    ReturnsInHanded {} Try.checked os 3 .any (Rows.fnP224ProjKeptSpec.pre6 enc Try.prog Try.f3 Rows.fnP224ProjKeptRow.domain false) (Rows.fnP224ProjKeptSpec.post enc Try.prog Try.f3 false true false false) := by
  refine returnsInHanded_of_change (C := Try.checked) own started (by kernel_rfl) Try.func3
    (ChangeSpec.witness6 (enc := enc) (C := Try.checked) false ⟨#[], #[.agg ((List.replicate 84 (Value.int .u8 0)).toArray)], []⟩ 8 (by kernel_rfl) (by kernel_rfl) (by kernel_rfl) (by kernel_rfl)) ?_
  intro W base args ds gs before hval0 hW hcnd _
  have hval : ∀ (j : Nat) t v, Try.f3.params[j]? = some t → args[j]? = some v → Value.okWide Try.prog W .any base t v := hval0
  have hW' := hW
  obtain ⟨p, q, hA0, hV, rfl, hfz, hnd⟩ := hW
  have hA : DataW.TrodAll enc Try.prog W 0 (fun _ => true) true Try.f3.params.toList args.toList ds p := hA0
  rw [Try.params3] at hA hval
  obtain ⟨v0, d0, rfl, rfl, h0⟩ := trodAll_one hA
  obtain ⟨rfl, rfl⟩ := trodVars_none hV
  obtain ⟨xs, rfl, hl, hx⟩ := open24 (hval 0 24 v0 rfl rfl)
  exact (walk hl hx W).mono fun e W' ⟨he, hb⟩ => ⟨_, he, post_true laid read24 (by kernel_rfl) Try.underlying4 rfl rfl hW' hb⟩

theorem holds : Rows.FnP224ProjKeptSaid :=
  OpenClaim.holds_of_wide 3 Try.f3 rfl rfl rfl rfl rfl rfl rfl ⟨rfl, rfl, rfl, rfl, rfl⟩ rfl rfl rfl rfl rfl (by kernel_rfl) Try.func3 (by kernel_rfl)
    (of_decide_eq_true (by kernel_rfl)) (by unfold Func.isWrapper; first | (rw [if_pos (by decide +kernel)]; kernel_rfl) | (rw [if_neg (by decide +kernel)]; exact ⟨rfl, rfl⟩))
    (fun os started H enc _ => lifted os started H enc)
end Go.Proofs.Ytkjfcpeabdimmaa.row1
