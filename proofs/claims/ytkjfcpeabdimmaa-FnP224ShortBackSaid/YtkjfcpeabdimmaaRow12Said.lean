/- FnP224ShortBack: for every slice of bytes the law answers true, and it reads afterwards as it did. -/
import Derived.Test.YtkjfcpeabdimmaaRow12
import Derived.Test.YtkjfcpeabdimmaaRowJoinS
set_option linter.unusedVariables false
set_option linter.unusedSimpArgs false
set_option linter.constructorNameAsVariable false
namespace Go.Proofs.Ytkjfcpeabdimmaa.row12
open Go Go.ChangeShapes Go.WideShapes Go.ChangeAt Go.RowKit Go.Sx

theorem readable : ∀ t ∈ Try.f11.params.toList, Try.prog.readableRec t = true ∧ t < Try.prog.types.size := by
  rw [Try.params11]
  intro t ht
  obtain rfl : t = 40 := by simpa using ht
  exact ⟨by kernel_rfl, of_decide_eq_true (by kernel_rfl)⟩
/-- Whatever the slice. -/
theorem walk {W : World} {v0 : Value} {n0 : Nat} (a0 : SlV W none v0 [(n0 : Int)] []) (c0 : other n0 ∨ (∃ ns b, SlV W (some 1) v0 ns [b]) ∨ ∃ ns b, SlV W (some 57) v0 ns [b]) :
    Calls Try.prog 11 #[v0] W fun e W' => e = .returned (.bool true) ∧ Below W.heap.size W W' := by
  have nil := slAll_nil W
  rcases c0 with h0 | ⟨ns0, b0, s0⟩ | ⟨ns0, b0, s0⟩
  · exact walkS row12_o_ok rfl (slAll_cons a0 nil) h0
  · exact walkS row12_1_ok rfl (slAll_cons s0 nil) trivial
  · exact walkS row12_57_ok rfl (slAll_cons s0 nil) trivial

set_option maxRecDepth 100000 in
theorem lifted (os : Os) (started : os.Started) (H : Type) (enc : TypeId × Value → H) :
    ReturnsInHanded {} Try.checked os 11 .any (Rows.fnP224ShortBackSpec.pre6 enc Try.prog Try.f11 Rows.fnP224ShortBackRow.domain false) (Rows.fnP224ShortBackSpec.post enc Try.prog Try.f11 false true false false) := by
  refine returnsInHanded_of_change (C := Try.checked) own started (by kernel_rfl) Try.func11
    (ChangeSpec.witness6 (enc := enc) (C := Try.checked) false ⟨#[], #[.slice none 0 0], []⟩ 8 (by kernel_rfl) (by kernel_rfl) (by kernel_rfl) (by kernel_rfl)) ?_
  intro W base args ds gs before hval0 hW hcnd _
  have hval : ∀ (j : Nat) t v, Try.f11.params[j]? = some t → args[j]? = some v → Value.okWide Try.prog W .any base t v := hval0
  have hW' := hW
  obtain ⟨p, q, hA0, hV, rfl, hfz, hnd⟩ := hW
  have hA : DataW.TrodAll enc Try.prog W 0 (fun _ => true) true Try.f11.params.toList args.toList ds p := hA0
  rw [Try.params11] at hA hval
  obtain ⟨v0, d0, rfl, rfl, h0⟩ := trodAll_one hA
  obtain ⟨rfl, rfl⟩ := trodVars_none hV
  obtain ⟨n0, a0, c0⟩ := openSl (hval 0 40 v0 rfl rfl) h0
  refine (walk a0 c0).mono fun e W' ⟨he, hb⟩ => ⟨_, he, ?_⟩
  exact post_true laid readable (by kernel_rfl) Try.underlying4 rfl rfl hW' hb

theorem holds : Rows.FnP224ShortBackSaid :=
  OpenClaim.holds_of_wide 11 Try.f11 rfl rfl rfl rfl rfl rfl rfl ⟨rfl, rfl, rfl, rfl, rfl⟩ rfl rfl rfl rfl rfl (by kernel_rfl) Try.func11 (by kernel_rfl)
    (of_decide_eq_true (by kernel_rfl)) (by unfold Func.isWrapper; first | (rw [if_pos (by decide +kernel)]; kernel_rfl) | (rw [if_neg (by decide +kernel)]; exact ⟨rfl, rfl⟩))
    (fun os started H enc _ => lifted os started H enc)
end Go.Proofs.Ytkjfcpeabdimmaa.row12
