/- FnP224Associates: for every three slices of bytes the law answers true, and they read afterwards as they did. -/
import Derived.Test.YtkjfcpeabdimmaaRow13O
import Derived.Test.YtkjfcpeabdimmaaRow13A
import Derived.Test.YtkjfcpeabdimmaaRow13B
import Derived.Test.YtkjfcpeabdimmaaRow13C
import Derived.Test.YtkjfcpeabdimmaaRow13D
import Derived.Test.YtkjfcpeabdimmaaRow13E
import Derived.Test.YtkjfcpeabdimmaaRow13F
import Derived.Test.YtkjfcpeabdimmaaRow13G
import Derived.Test.YtkjfcpeabdimmaaRow13H
import Derived.Test.YtkjfcpeabdimmaaRowJoinS
set_option linter.unusedVariables false
set_option linter.unusedSimpArgs false
set_option linter.constructorNameAsVariable false
namespace Go.Proofs.Ytkjfcpeabdimmaa.row13
open Go Go.ChangeShapes Go.WideShapes Go.ChangeAt Go.RowKit Go.Sx

theorem readable : ∀ t ∈ Try.f12.params.toList, Try.prog.readableRec t = true ∧ t < Try.prog.types.size := by
  rw [Try.params12]
  intro t ht
  have h : t = 40 ∨ t = 40 ∨ t = 40 := by simpa using ht
  rcases h with rfl | rfl | rfl
  · exact ⟨by kernel_rfl, of_decide_eq_true (by kernel_rfl)⟩
  · exact ⟨by kernel_rfl, of_decide_eq_true (by kernel_rfl)⟩
  · exact ⟨by kernel_rfl, of_decide_eq_true (by kernel_rfl)⟩
theorem nth_app : ∀ (ns : List Int) (n : Int) (r : List Int), nth 0 (ns ++ n :: r) ns.length = n
  | [], n, r => rfl
  | _ :: ns, n, r => nth_app ns n r
theorem last_app (xs : List Int) (n : Int) : (xs ++ [n]).getLastD 0 = n := by simp [List.getLastD_eq_getLast?]
theorem slV_len {W : World} {m : Nat} {v : Value} {ns : List Int} {bs : Base} (h : SlV W (some m) v ns bs) : ns.length = m := by
  obtain ⟨_, _, _, _, _, h, _⟩ := h
  exact h
/-- A class of three points: the total is far, or it is not. -/
theorem walkC {m k : Nat} {cls : List (Option Nat)} {vs : List Value} {ns : List Int} {bs : Base} {W : World} (hz : CanOk Try.prog (relsR5 m k) 12 (canSl 105 cls)) (hf : CanOk Try.prog (relsR5 m k) 12 (canSl 103 cls)) (hn : CanOk Try.prog (relsR5 m k) 12 (canSl 104 cls)) (h : SlAll W cls vs ns bs) :
    Calls Try.prog 12 vs.toArray W fun e W' => e = .returned (.bool true) ∧ Below W.heap.size W W' := by
  by_cases ha : all3 m k ns
  case neg => exact walkS hz rfl h ha
  by_cases ht : tot m k (fun S => S = none) ns
  · exact walkS hf rfl h ⟨ha, ht⟩
  · refine walkS hn rfl h ⟨ha, ?_⟩
    intro A B D hA hB hD e
    exact ht fun A' B' D' hA' hB' hD' => by rw [hA'.uniq hA, hB'.uniq hB, hD'.uniq hD]; exact e
/-- Whatever the slices. -/
theorem walk {W : World} {v0 v1 v2 : Value} {n0 n1 n2 : Nat} (a0 : SlV W none v0 [(n0 : Int)] []) (a1 : SlV W none v1 [(n1 : Int)] []) (a2 : SlV W none v2 [(n2 : Int)] [])
    (c0 : other n0 ∨ (∃ ns b, SlV W (some 1) v0 ns [b]) ∨ ∃ ns b, SlV W (some 57) v0 ns [b]) (c1 : other n1 ∨ (∃ ns b, SlV W (some 1) v1 ns [b]) ∨ ∃ ns b, SlV W (some 57) v1 ns [b])
    (c2 : other n2 ∨ (∃ ns b, SlV W (some 1) v2 ns [b]) ∨ ∃ ns b, SlV W (some 57) v2 ns [b]) :
    Calls Try.prog 12 #[v0, v1, v2] W fun e W' => e = .returned (.bool true) ∧ Below W.heap.size W W' := by
  have nil := slAll_nil W
  rcases c0 with h0 | ⟨ns0, b0, s0⟩ | ⟨ns0, b0, s0⟩
  · exact walkS row13_ooo_ok rfl (slAll_cons a0 (slAll_cons a1 (slAll_cons a2 nil))) h0
  · rcases c1 with h1 | ⟨ns1, b1, s1⟩ | ⟨ns1, b1, s1⟩
    · refine walkS row13_1_oo_ok rfl (slAll_cons s0 (slAll_cons a1 (slAll_cons a2 nil))) ?_
      show other (nth 0 (ns0 ++ ((n1 : Int) :: _)) 1)
      rw [← slV_len s0, nth_app]
      exact h1
    · rcases c2 with h2 | ⟨ns2, b2, s2⟩ | ⟨ns2, b2, s2⟩
      · refine walkS row13_1_1_o_ok rfl (slAll_cons s0 (slAll_cons s1 (slAll_cons a2 nil))) ?_
        show other ((ns0 ++ (ns1 ++ [(n2 : Int)])).getLastD 0)
        rw [← List.append_assoc, last_app]
        exact h2
      · exact walkC row13_1_1_1_not_ok row13_1_1_1_far_ok row13_1_1_1_fin_ok (slAll_cons s0 (slAll_cons s1 (slAll_cons s2 nil)))
      · exact walkC row13_1_1_57_not_ok row13_1_1_57_far_ok row13_1_1_57_fin_ok (slAll_cons s0 (slAll_cons s1 (slAll_cons s2 nil)))
    · rcases c2 with h2 | ⟨ns2, b2, s2⟩ | ⟨ns2, b2, s2⟩
      · refine walkS row13_1_57_o_ok rfl (slAll_cons s0 (slAll_cons s1 (slAll_cons a2 nil))) ?_
        show other ((ns0 ++ (ns1 ++ [(n2 : Int)])).getLastD 0)
        rw [← List.append_assoc, last_app]
        exact h2
      · exact walkC row13_1_57_1_not_ok row13_1_57_1_far_ok row13_1_57_1_fin_ok (slAll_cons s0 (slAll_cons s1 (slAll_cons s2 nil)))
      · exact walkC row13_1_57_57_not_ok row13_1_57_57_far_ok row13_1_57_57_fin_ok (slAll_cons s0 (slAll_cons s1 (slAll_cons s2 nil)))
  · rcases c1 with h1 | ⟨ns1, b1, s1⟩ | ⟨ns1, b1, s1⟩
    · refine walkS row13_57_oo_ok rfl (slAll_cons s0 (slAll_cons a1 (slAll_cons a2 nil))) ?_
      show other (nth 0 (ns0 ++ ((n1 : Int) :: _)) 57)
      rw [← slV_len s0, nth_app]
      exact h1
    · rcases c2 with h2 | ⟨ns2, b2, s2⟩ | ⟨ns2, b2, s2⟩
      · refine walkS row13_57_1_o_ok rfl (slAll_cons s0 (slAll_cons s1 (slAll_cons a2 nil))) ?_
        show other ((ns0 ++ (ns1 ++ [(n2 : Int)])).getLastD 0)
        rw [← List.append_assoc, last_app]
        exact h2
      · exact walkC row13_57_1_1_not_ok row13_57_1_1_far_ok row13_57_1_1_fin_ok (slAll_cons s0 (slAll_cons s1 (slAll_cons s2 nil)))
      · exact walkC row13_57_1_57_not_ok row13_57_1_57_far_ok row13_57_1_57_fin_ok (slAll_cons s0 (slAll_cons s1 (slAll_cons s2 nil)))
    · rcases c2 with h2 | ⟨ns2, b2, s2⟩ | ⟨ns2, b2, s2⟩
      · refine walkS row13_57_57_o_ok rfl (slAll_cons s0 (slAll_cons s1 (slAll_cons a2 nil))) ?_
        show other ((ns0 ++ (ns1 ++ [(n2 : Int)])).getLastD 0)
        rw [← List.append_assoc, last_app]
        exact h2
      · exact walkC row13_57_57_1_not_ok row13_57_57_1_far_ok row13_57_57_1_fin_ok (slAll_cons s0 (slAll_cons s1 (slAll_cons s2 nil)))
      · exact walkC row13_57_57_57_not_ok row13_57_57_57_far_ok row13_57_57_57_fin_ok (slAll_cons s0 (slAll_cons s1 (slAll_cons s2 nil)))

set_option maxRecDepth 100000 in
theorem lifted (os : Os) (started : os.Started) (H : Type) (enc : TypeId × Value → H) :
    ReturnsInHanded {} Try.checked os 12 .any (Rows.fnP224AssociatesSpec.pre6 enc Try.prog Try.f12 Rows.fnP224AssociatesRow.domain false) (Rows.fnP224AssociatesSpec.post enc Try.prog Try.f12 false true false false) := by
  refine returnsInHanded_of_change (C := Try.checked) own started (by kernel_rfl) Try.func12
    (ChangeSpec.witness6 (enc := enc) (C := Try.checked) false ⟨#[], #[.slice none 0 0, .slice none 0 0, .slice none 0 0], []⟩ 8 (by kernel_rfl) (by kernel_rfl) (by kernel_rfl) (by kernel_rfl)) ?_
  intro W base args ds gs before hval0 hW hcnd _
  have hval : ∀ (j : Nat) t v, Try.f12.params[j]? = some t → args[j]? = some v → Value.okWide Try.prog W .any base t v := hval0
  have hW' := hW
  obtain ⟨p, q, hA0, hV, rfl, hfz, hnd⟩ := hW
  have hA : DataW.TrodAll enc Try.prog W 0 (fun _ => true) true Try.f12.params.toList args.toList ds p := hA0
  rw [Try.params12] at hA hval
  obtain ⟨v0, v1, v2, d0, d1, d2, p0, p1, p2, rfl, rfl, rfl, h0, h1, h2⟩ := trodAll_three hA
  obtain ⟨rfl, rfl⟩ := trodVars_none hV
  obtain ⟨n0, a0, c0⟩ := openSl (hval 0 40 v0 rfl rfl) h0
  obtain ⟨n1, a1, c1⟩ := openSl (hval 1 40 v1 rfl rfl) h1
  obtain ⟨n2, a2, c2⟩ := openSl (hval 2 40 v2 rfl rfl) h2
  refine (walk a0 a1 a2 c0 c1 c2).mono fun e W' ⟨he, hb⟩ => ⟨_, he, ?_⟩
  exact post_true laid readable (by kernel_rfl) Try.underlying4 rfl rfl hW' hb

theorem holds : Rows.FnP224AssociatesSaid :=
  OpenClaim.holds_of_wide 12 Try.f12 rfl rfl rfl rfl rfl rfl rfl ⟨rfl, rfl, rfl, rfl, rfl⟩ rfl rfl rfl rfl rfl (by kernel_rfl) Try.func12 (by kernel_rfl)
    (of_decide_eq_true (by kernel_rfl)) (by unfold Func.isWrapper; first | (rw [if_pos (by decide +kernel)]; kernel_rfl) | (rw [if_neg (by decide +kernel)]; exact ⟨rfl, rfl⟩))
    (fun os started H enc _ => lifted os started H enc)
end Go.Proofs.Ytkjfcpeabdimmaa.row13
