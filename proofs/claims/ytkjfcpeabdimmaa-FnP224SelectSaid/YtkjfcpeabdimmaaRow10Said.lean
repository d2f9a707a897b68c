/- FnP224Select: for every two slices of bytes and either choice the law answers true, and they read afterwards as they did. -/
import Derived.Test.YtkjfcpeabdimmaaRow10
import Derived.Test.YtkjfcpeabdimmaaRowJoinS
set_option linter.unusedVariables false
set_option linter.unusedSimpArgs false
set_option linter.constructorNameAsVariable false
namespace Go.Proofs.Ytkjfcpeabdimmaa.row10
open Go Go.ChangeShapes Go.WideShapes Go.ChangeAt Go.RowKit Go.Sx

theorem readable : ∀ t ∈ Try.f9.params.toList, Try.prog.readableRec t = true ∧ t < Try.prog.types.size := by
  rw [Try.params9]
  intro t ht
  have h : t = 40 ∨ t = 40 ∨ t = 4 := by simpa using ht
  rcases h with rfl | rfl | rfl
  · exact ⟨by kernel_rfl, of_decide_eq_true (by kernel_rfl)⟩
  · exact ⟨by kernel_rfl, of_decide_eq_true (by kernel_rfl)⟩
  · exact ⟨by kernel_rfl, of_decide_eq_true (by kernel_rfl)⟩
theorem walkX {rels : Nat → RelSpec} {f : FuncId} {id : Nat} {cls : List (Option Nat)} {extra : List AV} {vs us : List Value} {ns : List Int} {bs : Base} {W : World} (hC : CanOk Try.prog rels f (canSlX id cls extra)) (hpost : (rels id).post = postRow) (h : SlAll W cls vs ns bs)
    (hx : All2 (AV.R ns bs) extra us) (hpre : (rels id).pre ns) : Calls Try.prog f (vs ++ us).toArray W fun e W' => e = .returned (.bool true) ∧ Below W.heap.size W W' := by
  obtain ⟨hl, hlh⟩ := slAll_len cls vs ns bs h
  have hro : ∀ (r : Nat) (g : Reg), (canSlX id cls extra).hp[r]? = some g → g.rw = false ∧ g.it = none ∧ (slHp 0 cls)[r]? = some g.cs := fun r g e => by
    simp only [canSlX, canSl, List.getElem?_map] at e
    cases hg : (slHp 0 cls)[r]? with
    | none => rw [hg] at e; cases e
    | some cs => rw [hg] at e; obtain rfl := Option.some.inj e; exact ⟨rfl, rfl, rfl⟩
  have hM : Mem (canOld bs (canSlX id cls extra).hp) ns bs (canSlX id cls extra).hp W W := by
    refine ⟨by simp [canSlX, canSl, hlh], ?_, ?_, ?_, ?_, Keep.refl _ _, ?_, ?_, ?_⟩
    · intro r g x e ex i c hc
      have := slAll_cells (β := bs) cls vs ns bs [] [] h r g.cs x (hro r g e).2.2 ex i c hc
      simpa using this
    · intro r g x e _ hw; rw [(hro r g e).1] at hw; cases hw
    · intro r r' g g' x x' e e' _ _ _ hor
      rw [(hro r g e).1, (hro r' g' e').1] at hor
      rcases hor with h | h <;> cases h
    · intro r g x e _ hw; rw [(hro r g e).1] at hw; cases hw
    · intro r x ex hn
      have h1 := lt_of_some ex
      have h2 := hlh 0
      simp [canOld, canSlX, canSl] at hn
      omega
    · intro r g x s p e _ hit; rw [(hro r g e).2.1] at hit; cases hit
    · intro r r' g g' x x' e _ _ _ hi; rw [(hro r g e).2.1] at hi; cases hi
  have hR : All2 (AV.R ns bs) (canSlX id cls extra).args (vs ++ us) := by
    have h1 := slAll_args cls vs ns bs [] [] [] [] h
    have h2 : All2 (AV.R ns bs) (slArgs 0 0 cls) vs := by simpa using h1
    exact h2.append hx
  refine (hC W ns bs (vs ++ us) hM (by simpa [canSlX, canSl] using hl) hR hpre).mono fun e W' he => ?_
  obtain ⟨v, outs, nb, rfl, hP⟩ := he
  have hpo := hP.post
  rw [show (canSlX id cls extra).id = id from rfl, hpost] at hpo
  match outs, hpo with
  | [r], hr' =>
    obtain ⟨m, hm, hv⟩ : ∃ n, (ns ++ [r])[(slKinds cls).length]? = some n ∧ v = .bool (n != 0) := hP.res
    have : m = r := by
      rw [← hl, List.getElem?_append_right (by omega)] at hm
      simpa using hm.symm
    subst this
    have hr2 : m ≠ 0 := hr'
    refine ⟨by rw [hv]; simp [hr2], hP.keep.below fun k i _ hS => ?_⟩
    obtain ⟨j, g, x, h1, _, h3, _⟩ := hS
    rw [(hro j g h1).1] at h3
    cases h3
theorem last_app (xs : List Int) (n : Int) : (xs ++ ([n] ++ [])).getLastD 0 = n := by simp [List.getLastD_eq_getLast?]
/-- Whatever the slices, for either choice. -/
theorem walk {W : World} {v0 v1 : Value} {n0 n1 : Nat} (t : Bool) (a0 : SlV W none v0 [(n0 : Int)] []) (a1 : SlV W none v1 [(n1 : Int)] [])
    (c0 : other n0 ∨ (∃ ns b, SlV W (some 1) v0 ns [b]) ∨ ∃ ns b, SlV W (some 57) v0 ns [b]) (c1 : other n1 ∨ (∃ ns b, SlV W (some 1) v1 ns [b]) ∨ ∃ ns b, SlV W (some 57) v1 ns [b]) :
    Calls Try.prog 9 #[v0, v1, .bool t] W fun e W' => e = .returned (.bool true) ∧ Below W.heap.size W W' := by
  have nil := slAll_nil W
  cases t with
  | true =>
    have hx : ∀ (ns : List Int) (bs : Base), All2 (AV.R ns bs) (isT true) [.bool true] := fun _ _ => ⟨rfl, trivial⟩
    rcases c0 with h0 | ⟨ns0, b0, s0⟩ | ⟨ns0, b0, s0⟩
    · exact walkX (vs := [v0, v1]) (us := [.bool true]) row10_oo_true_ok rfl (slAll_cons a0 (slAll_cons a1 nil)) (hx _ _) h0
    · rcases c1 with h1 | ⟨ns1, b1, s1⟩ | ⟨ns1, b1, s1⟩
      · exact walkX (vs := [v0, v1]) (us := [.bool true]) row10_1_o_true_ok rfl (slAll_cons s0 (slAll_cons a1 nil)) (hx _ _) (by show other _; rw [last_app]; exact h1)
      · exact walkX (vs := [v0, v1]) (us := [.bool true]) row10_1_1_true_ok rfl (slAll_cons s0 (slAll_cons s1 nil)) (hx _ _) trivial
      · exact walkX (vs := [v0, v1]) (us := [.bool true]) row10_1_57_true_ok rfl (slAll_cons s0 (slAll_cons s1 nil)) (hx _ _) trivial
    · rcases c1 with h1 | ⟨ns1, b1, s1⟩ | ⟨ns1, b1, s1⟩
      · exact walkX (vs := [v0, v1]) (us := [.bool true]) row10_57_o_true_ok rfl (slAll_cons s0 (slAll_cons a1 nil)) (hx _ _) (by show other _; rw [last_app]; exact h1)
      · exact walkX (vs := [v0, v1]) (us := [.bool true]) row10_57_1_true_ok rfl (slAll_cons s0 (slAll_cons s1 nil)) (hx _ _) trivial
      · exact walkX (vs := [v0, v1]) (us := [.bool true]) row10_57_57_true_ok rfl (slAll_cons s0 (slAll_cons s1 nil)) (hx _ _) trivial
  | false =>
    have hx : ∀ (ns : List Int) (bs : Base), All2 (AV.R ns bs) (isT false) [.bool false] := fun _ _ => ⟨rfl, trivial⟩
    rcases c0 with h0 | ⟨ns0, b0, s0⟩ | ⟨ns0, b0, s0⟩
    · exact walkX (vs := [v0, v1]) (us := [.bool false]) row10_oo_false_ok rfl (slAll_cons a0 (slAll_cons a1 nil)) (hx _ _) h0
    · rcases c1 with h1 | ⟨ns1, b1, s1⟩ | ⟨ns1, b1, s1⟩
      · exact walkX (vs := [v0, v1]) (us := [.bool false]) row10_1_o_false_ok rfl (slAll_cons s0 (slAll_cons a1 nil)) (hx _ _) (by show other _; rw [last_app]; exact h1)
      · exact walkX (vs := [v0, v1]) (us := [.bool false]) row10_1_1_false_ok rfl (slAll_cons s0 (slAll_cons s1 nil)) (hx _ _) trivial
      · exact walkX (vs := [v0, v1]) (us := [.bool false]) row10_1_57_false_ok rfl (slAll_cons s0 (slAll_cons s1 nil)) (hx _ _) trivial
    · rcases c1 with h1 | ⟨ns1, b1, s1⟩ | ⟨ns1, b1, s1⟩
      · exact walkX (vs := [v0, v1]) (us := [.bool false]) row10_57_o_false_ok rfl (slAll_cons s0 (slAll_cons a1 nil)) (hx _ _) (by show other _; rw [last_app]; exact h1)
      · exact walkX (vs := [v0, v1]) (us := [.bool false]) row10_57_1_false_ok rfl (slAll_cons s0 (slAll_cons s1 nil)) (hx _ _) trivial
      · exact walkX (vs := [v0, v1]) (us := [.bool false]) row10_57_57_false_ok rfl (slAll_cons s0 (slAll_cons s1 nil)) (hx _ _) trivial

set_option maxRecDepth 100000 in
theorem lifted (os : Os) (started : os.Started) (H : Type) (enc : TypeId × Value → H) :
    ReturnsInHanded {} Try.checked os 9 .any (Rows.fnP224SelectSpec.pre6 enc Try.prog Try.f9 Rows.fnP224SelectRow.domain false) (Rows.fnP224SelectSpec.post enc Try.prog Try.f9 false true false false) := by
  refine returnsInHanded_of_change (C := Try.checked) own started (by kernel_rfl) Try.func9
    (ChangeSpec.witness6 (enc := enc) (C := Try.checked) false ⟨#[], #[.slice none 0 0, .slice none 0 0, .bool false], []⟩ 8 (by kernel_rfl) (by kernel_rfl) (by kernel_rfl) (by kernel_rfl)) ?_
  intro W base args ds gs before hval0 hW hcnd _
  have hval : ∀ (j : Nat) t v, Try.f9.params[j]? = some t → args[j]? = some v → Value.okWide Try.prog W .any base t v := hval0
  have hW' := hW
  obtain ⟨p, q, hA0, hV, rfl, hfz, hnd⟩ := hW
  have hA : DataW.TrodAll enc Try.prog W 0 (fun _ => true) true Try.f9.params.toList args.toList ds p := hA0
  rw [Try.params9] at hA hval
  obtain ⟨v0, v1, v2, d0, d1, d2, p0, p1, p2, rfl, rfl, rfl, h0, h1, h2⟩ := trodAll_three hA
  obtain ⟨rfl, rfl⟩ := trodVars_none hV
  obtain ⟨n0, a0, c0⟩ := openSl (hval 0 40 v0 rfl rfl) h0
  obtain ⟨n1, a1, c1⟩ := openSl (hval 1 40 v1 rfl rfl) h1
  obtain ⟨t, rfl⟩ := okWide_bool Try.underlying4 (hval 2 4 v2 rfl rfl)
  refine (walk t a0 a1 c0 c1).mono fun e W' ⟨he, hb⟩ => ⟨_, he, ?_⟩
  exact post_true laid readable (by kernel_rfl) Try.underlying4 rfl rfl hW' hb

theorem holds : Rows.FnP224SelectSaid :=
  OpenClaim.holds_of_wide 9 Try.f9 rfl rfl rfl rfl rfl rfl rfl ⟨rfl, rfl, rfl, rfl, rfl⟩ rfl rfl rfl rfl rfl (by kernel_rfl) Try.func9 (by kernel_rfl)
    (of_decide_eq_true (by kernel_rfl)) (by unfold Func.isWrapper; first | (rw [if_pos (by decide +kernel)]; kernel_rfl) | (rw [if_neg (by decide +kernel)]; exact ⟨rfl, rfl⟩))
    (fun os started H enc _ => lifted os started H enc)
end Go.Proofs.Ytkjfcpeabdimmaa.row10
