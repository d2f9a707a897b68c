/- FnP224ProjDouble: for every three coordinates the law answers true, and they read afterwards as they did. -/
import Derived.Test.YtkjfcpeabdimmaaRow4
import Derived.Test.YtkjfcpeabdimmaaRowJoin
set_option linter.unusedVariables false
set_option linter.unusedSimpArgs false
set_option linter.constructorNameAsVariable false
namespace Go.Proofs.Ytkjfcpeabdimmaa.row4
open Go Go.ChangeShapes Go.WideShapes Go.ChangeAt Go.RowKit Go.Sx

theorem types24 : Try.prog.cellTypes Try.prog.depth 24 = some (List.replicate 84 5) := by kernel_rfl
theorem cells24 : Try.prog.cellsOf 24 = 84 := by kernel_rfl
set_option maxRecDepth 100000 in
theorem open24 {W : World} {base : Nat} {v : Value} (h : Value.okWide Try.prog W .any base 24 v) : ∃ xs : List Int, v = aggB xs ∧ xs.length = 84 ∧ Bs xs := by
  unfold Value.okWide at h
  rw [Try.underlying24] at h
  obtain ⟨cs, rfl, hs, hrow⟩ := h
  exact open_row types24 cells24 hs hrow
theorem readable : ∀ t ∈ Try.f6.params.toList, Try.prog.readableRec t = true ∧ t < Try.prog.types.size := by
  rw [Try.params6]
  intro t ht
  obtain rfl : t = 24 := by simpa using ht
  exact ⟨by kernel_rfl, of_decide_eq_true (by kernel_rfl)⟩

set_option maxRecDepth 100000 in
theorem lifted (os : Os) (started : os.Started) (H : Type) (enc : TypeId × Value → H) :
    ReturnsInHanded {} Try.checked os 6 .any (Rows.fnP224ProjDoubleSpec.pre6 enc Try.prog Try.f6 Rows.fnP224ProjDoubleRow.domain false) (Rows.fnP224ProjDoubleSpec.post enc Try.prog Try.f6 false true false false) := by
  refine returnsInHanded_of_change (C := Try.checked) own started (by kernel_rfl) Try.func6
    (ChangeSpec.witness6 (enc := enc) (C := Try.checked) false ⟨#[], #[.agg ((List.replicate 84 (Value.int .u8 0)).toArray)], []⟩ 8 (by kernel_rfl) (by kernel_rfl) (by kernel_rfl) (by kernel_rfl)) ?_
  intro W base args ds gs before hval0 hW hcnd _
  have hval : ∀ (j : Nat) t v, Try.f6.params[j]? = some t → args[j]? = some v → Value.okWide Try.prog W .any base t v := hval0
  have hW' := hW
  obtain ⟨p, q, hA0, hV, rfl, hfz, hnd⟩ := hW
  have hA : DataW.TrodAll enc Try.prog W 0 (fun _ => true) true Try.f6.params.toList args.toList ds p := hA0
  rw [Try.params6] at hA hval
  obtain ⟨v0, d0, rfl, rfl, h0⟩ := trodAll_one hA
  obtain ⟨rfl, rfl⟩ := trodVars_none hV
  obtain ⟨xs, rfl, hl, hx⟩ := open24 (hval 0 24 v0 rfl rfl)
  refine (walkB (xss := [xs]) row4_ok rfl rfl rfl (by simp [hl, canRow1T, aggs, agg3]) (by simpa using hl) rfl trivial (by simpa using hx) W).mono fun e W' ⟨he, hb⟩ => ⟨_, he, ?_⟩
  exact post_true laid readable (by kernel_rfl) Try.underlying4 rfl rfl hW' hb

theorem holds : Rows.FnP224ProjDoubleSaid :=
  OpenClaim.holds_of_wide 6 Try.f6 rfl rfl rfl rfl rfl rfl rfl ⟨rfl, rfl, rfl, rfl, rfl⟩ rfl rfl rfl rfl rfl (by kernel_rfl) Try.func6 (by kernel_rfl)
    (of_decide_eq_true (by kernel_rfl)) (by unfold Func.isWrapper; first | (rw [if_pos (by decide +kernel)]; kernel_rfl) | (rw [if_neg (by decide +kernel)]; exact ⟨rfl, rfl⟩))
    (fun os started H enc _ => lifted os started H enc)
end Go.Proofs.Ytkjfcpeabdimmaa.row4
