/- FnP224ProjMult: for every three coordinates and every 28 bytes the law answers true, and they read afterwards as they did. -/
import Derived.Test.YtkjfcpeabdimmaaBaseImpl
import Derived.Test.YtkjfcpeabdimmaaBaseJoin
set_option linter.unusedVariables false
set_option linter.unusedSimpArgs false
set_option linter.constructorNameAsVariable false
namespace Go.Proofs.Ytkjfcpeabdimmaa.row6
open Go Go.ChangeShapes Go.WideShapes Go.ChangeAt Go.RowKit Go.Sx

theorem types22 : Try.prog.cellTypes Try.prog.depth 22 = some (List.replicate 28 5) := by kernel_rfl
theorem cells22 : Try.prog.cellsOf 22 = 28 := by kernel_rfl
set_option maxRecDepth 100000 in
theorem open22 {W : World} {base : Nat} {v : Value} (h : Value.okWide Try.prog W .any base 22 v) : ∃ xs : List Int, v = aggB xs ∧ xs.length = 28 ∧ Bs xs := by
  unfold Value.okWide at h
  rw [Try.underlying22] at h
  obtain ⟨cs, rfl, hs, hrow⟩ := h
  exact open_row types22 cells22 hs hrow
theorem types24 : Try.prog.cellTypes Try.prog.depth 24 = some (List.replicate 84 5) := by kernel_rfl
theorem cells24 : Try.prog.cellsOf 24 = 84 := by kernel_rfl
set_option maxRecDepth 100000 in
theorem open24 {W : World} {base : Nat} {v : Value} (h : Value.okWide Try.prog W .any base 24 v) : ∃ xs : List Int, v = aggB xs ∧ xs.length = 84 ∧ Bs xs := by
  unfold Value.okWide at h
  rw [Try.underlying24] at h
  obtain ⟨cs, rfl, hs, hrow⟩ := h
  exact open_row types24 cells24 hs hrow
theorem readable : ∀ t ∈ Try.f7.params.toList, Try.prog.readableRec t = true ∧ t < Try.prog.types.size := by
  rw [Try.params7]
  intro t ht
  have h : t = 24 ∨ t = 22 := by simpa using ht
  rcases h with rfl | rfl
  · exact ⟨by kernel_rfl, of_decide_eq_true (by kernel_rfl)⟩
  · exact ⟨by kernel_rfl, of_decide_eq_true (by kernel_rfl)⟩

set_option maxRecDepth 100000 in
theorem lifted (os : Os) (started : os.Started) (H : Type) (enc : TypeId × Value → H) :
    ReturnsInHanded {} Try.checked os 7 .any (Rows.fnP224ProjMultSpec.pre6 enc Try.prog Try.f7 Rows.fnP224ProjMultRow.domain false) (Rows.fnP224ProjMultSpec.post enc Try.prog Try.f7 false true false false) := by
  refine returnsInHanded_of_change (C := Try.checked) own started (by kernel_rfl) Try.func7
    (ChangeSpec.witness6 (enc := enc) (C := Try.checked) false ⟨#[], #[.agg ((List.replicate 84 (Value.int .u8 0)).toArray), .agg ((List.replicate 28 (Value.int .u8 0)).toArray)], []⟩ 8 (by kernel_rfl) (by kernel_rfl) (by kernel_rfl) (by kernel_rfl)) ?_
  intro W base args ds gs before hval0 hW hcnd _
  have hval : ∀ (j : Nat) t v, Try.f7.params[j]? = some t → args[j]? = some v → Value.okWide Try.prog W .any base t v := hval0
  have hW' := hW
  obtain ⟨p, q, hA0, hV, rfl, hfz, hnd⟩ := hW
  have hA : DataW.TrodAll enc Try.prog W 0 (fun _ => true) true Try.f7.params.toList args.toList ds p := hA0
  rw [Try.params7] at hA hval
  obtain ⟨v0, v1, d0, d1, p0, p1, rfl, rfl, rfl, h0, h1⟩ := trodAll_two hA
  obtain ⟨rfl, rfl⟩ := trodVars_none hV
  obtain ⟨x0, rfl, l0, b0⟩ := open24 (hval 0 24 v0 rfl rfl)
  obtain ⟨x1, rfl, l1, b1⟩ := open22 (hval 1 22 v1 rfl rfl)
  refine (walkB (xss := [x0, x1]) row6_ok rfl rfl rfl (by simp [l0, l1, canRow6, aggs, agg3]) (by simp [l0, l1]) rfl trivial (by simp [b0, b1]) W).mono fun e W' ⟨he, hb⟩ => ⟨_, he, ?_⟩
  exact post_true laid readable (by kernel_rfl) Try.underlying4 rfl rfl hW' hb

theorem holds : Rows.FnP224ProjMultSaid :=
  OpenClaim.holds_of_wide 7 Try.f7 rfl rfl rfl rfl rfl rfl rfl ⟨rfl, rfl, rfl, rfl, rfl⟩ rfl rfl rfl rfl rfl (by kernel_rfl) Try.func7 (by kernel_rfl)
    (of_decide_eq_true (by kernel_rfl)) (by unfold Func.isWrapper; first | (rw [if_pos (by decide +kernel)]; kernel_rfl) | (rw [if_neg (by decide +kernel)]; exact ⟨rfl, rfl⟩))
    (fun os started H enc _ => lifted os started H enc)
end Go.Proofs.Ytkjfcpeabdimmaa.row6
