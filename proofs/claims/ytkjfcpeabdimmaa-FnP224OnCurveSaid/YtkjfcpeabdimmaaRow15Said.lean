/- FnP224OnCurve: for every two slices of bytes the law answers true, and they read afterwards as they did. -/
import Derived.Test.YtkjfcpeabdimmaaRow15
import Derived.Test.YtkjfcpeabdimmaaRowJoinS
set_option linter.unusedVariables false
set_option linter.unusedSimpArgs false
set_option linter.constructorNameAsVariable false
namespace Go.Proofs.Ytkjfcpeabdimmaa.row15
open Go Go.ChangeShapes Go.WideShapes Go.ChangeAt Go.RowKit Go.Sx

theorem readable : ∀ t ∈ Try.f13.params.toList, Try.prog.readableRec t = true ∧ t < Try.prog.types.size := by
  rw [Try.params13]
  intro t ht
  have h : t = 40 ∨ t = 40 := by simpa using ht
  rcases h with rfl | rfl
  · exact ⟨by kernel_rfl, of_decide_eq_true (by kernel_rfl)⟩
  · exact ⟨by kernel_rfl, of_decide_eq_true (by kernel_rfl)⟩
/-- Whatever the slices. -/
theorem walk {W : World} {v0 v1 : Value} {n0 n1 : Nat} (a0 : SlV W none v0 [(n0 : Int)] []) (a1 : SlV W none v1 [(n1 : Int)] [])
    (c0 : other n0 ∨ (∃ ns b, SlV W (some 1) v0 ns [b]) ∨ ∃ ns b, SlV W (some 57) v0 ns [b]) (c1 : other n1 ∨ (∃ ns b, SlV W (some 1) v1 ns [b]) ∨ ∃ ns b, SlV W (some 57) v1 ns [b]) :
    Calls Try.prog 13 #[v0, v1] W fun e W' => e = .returned (.bool true) ∧ Below W.heap.size W W' := by
  have nil := slAll_nil W
  have last : ∀ (ns : List Int) (n : Int), (ns ++ ([n] ++ [])).getLastD 0 = n := fun ns n => by simp [List.getLastD_eq_getLast?]
  rcases c0 with h0 | ⟨ns0, b0, s0⟩ | ⟨ns0, b0, s0⟩
  · exact walkS row15_oo_ok rfl (slAll_cons a0 (slAll_cons a1 nil)) h0
  · rcases c1 with h1 | ⟨ns1, b1, s1⟩ | ⟨ns1, b1, s1⟩
    · exact walkS row15_1o_ok rfl (slAll_cons s0 (slAll_cons a1 nil)) (by show other _; rw [last]; exact h1)
    · exact walkS row15_11_ok rfl (slAll_cons s0 (slAll_cons s1 nil)) trivial
    · exact walkS row15_157_ok rfl (slAll_cons s0 (slAll_cons s1 nil)) trivial
  · rcases c1 with h1 | ⟨ns1, b1, s1⟩ | ⟨ns1, b1, s1⟩
    · exact walkS row15_57o_ok rfl (slAll_cons s0 (slAll_cons a1 nil)) (by show other _; rw [last]; exact h1)
    · exact walkS row15_571_ok rfl (slAll_cons s0 (slAll_cons s1 nil)) trivial
    · exact walkS row15_5757_ok rfl (slAll_cons s0 (slAll_cons s1 nil)) trivial

set_option maxRecDepth 100000 in
theorem lifted (os : Os) (started : os.Started) (H : Type) (enc : TypeId × Value → H) :
    ReturnsInHanded {} Try.checked os 13 .any (Rows.fnP224OnCurveSpec.pre6 enc Try.prog Try.f13 Rows.fnP224OnCurveRow.domain false) (Rows.fnP224OnCurveSpec.post enc Try.prog Try.f13 false true false false) := by
  refine returnsInHanded_of_change (C := Try.checked) own started (by kernel_rfl) Try.func13
    (ChangeSpec.witness6 (enc := enc) (C := Try.checked) false ⟨#[], #[.slice none 0 0, .slice none 0 0], []⟩ 8 (by kernel_rfl) (by kernel_rfl) (by kernel_rfl) (by kernel_rfl)) ?_
  intro W base args ds gs before hval0 hW hcnd _
  have hval : ∀ (j : Nat) t v, Try.f13.params[j]? = some t → args[j]? = some v → Value.okWide Try.prog W .any base t v := hval0
  have hW' := hW
  obtain ⟨p, q, hA0, hV, rfl, hfz, hnd⟩ := hW
  have hA : DataW.TrodAll enc Try.prog W 0 (fun _ => true) true Try.f13.params.toList args.toList ds p := hA0
  rw [Try.params13] at hA hval
  obtain ⟨v0, v1, d0, d1, p0, p1, rfl, rfl, rfl, h0, h1⟩ := trodAll_two hA
  obtain ⟨rfl, rfl⟩ := trodVars_none hV
  obtain ⟨n0, a0, c0⟩ := openSl (hval 0 40 v0 rfl rfl) h0
  obtain ⟨n1, a1, c1⟩ := openSl (hval 1 40 v1 rfl rfl) h1
  refine (walk a0 a1 c0 c1).mono fun e W' ⟨he, hb⟩ => ⟨_, he, ?_⟩
  exact post_true laid readable (by kernel_rfl) Try.underlying4 rfl rfl hW' hb

theorem holds : Rows.FnP224OnCurveSaid :=
  OpenClaim.holds_of_wide 13 Try.f13 rfl rfl rfl rfl rfl rfl rfl ⟨rfl, rfl, rfl, rfl, rfl⟩ rfl rfl rfl rfl rfl (by kernel_rfl) Try.func13 (by kernel_rfl)
    (of_decide_eq_true (by kernel_rfl)) (by unfold Func.isWrapper; first | (rw [if_pos (by decide +kernel)]; kernel_rfl) | (rw [if_neg (by decide +kernel)]; exact ⟨rfl, rfl⟩))
    (fun os started H enc _ => lifted os started H enc)
end Go.Proofs.Ytkjfcpeabdimmaa.row15
