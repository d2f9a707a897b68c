/- FnP224Parse: for every slice of bytes the law answers true, and it reads afterwards as it did. -/
import Derived.Test.YtkjfcpeabdimmaaRow11
import Derived.Test.YtkjfcpeabdimmaaRowJoinS
set_option linter.unusedVariables false
set_option linter.unusedSimpArgs false
set_option linter.constructorNameAsVariable false
namespace Go.Proofs.Ytkjfcpeabdimmaa.row11
open Go Go.ChangeShapes Go.WideShapes Go.ChangeAt Go.RowKit Go.Sx

theorem readable : ∀ t ∈ Try.f10.params.toList, Try.prog.readableRec t = true ∧ t < Try.prog.types.size := by
  rw [Try.params10]
  intro t ht
  obtain rfl : t = 40 := by simpa using ht
  exact ⟨by kernel_rfl, of_decide_eq_true (by kernel_rfl)⟩
set_option maxRecDepth 100000 in
/-- A slice of bytes that came in, its cells there. -/
theorem openN {H : Type} {enc : TypeId × Value → H} {W : World} {base : Nat} {v : Value} {d : DataW H} {ps : List MemPlace} (hval : Value.okWide Try.prog W .any base 40 v) (h : DataW.Trod enc Try.prog W 0 (fun _ => true) true 40 v d ps) :
    v = .slice none 0 0 ∨ ∃ (a : Addr) (b : Nat × Nat) (n cap : Nat), v = .slice (some a) n cap ∧ (0 < n → a = ⟨b.1, b.2, none⟩) ∧ Fits .i64 (n : Int) ∧ ∀ i, i < n → ∃ x : Int, W.cell? ⟨b.1, b.2 + i, none⟩ = some (.int .u8 x) := by
  obtain ⟨a1, len, cap, rfl⟩ := okWide_slice Try.underlying40 hval
  obtain ⟨fuel, hf⟩ := h
  rcases open_ints Try.underlying40 Try.underlying5 cells5 hf with ⟨hcs, _⟩ | ⟨a, len', cap', zs, hcs, _, hl, hm, hz, _, hcell, hwz⟩
  · simp [Value.cells] at hcs
    obtain ⟨rfl, rfl, rfl⟩ := hcs
    exact .inl rfl
  · simp [Value.cells] at hcs
    obtain ⟨rfl, rfl, rfl⟩ := hcs
    simp only [if_true] at hz
    have hfit : Fits .i64 (len : Int) := by
      have : maxLen ≤ 9223372036854775807 := by decide +kernel
      simp only [Fits, kmin, kmax]; omega
    obtain ⟨ab, ao, spot⟩ := a
    refine .inr ⟨⟨ab, ao, spot⟩, (ab, ao), len, cap, rfl, fun h0 => ?_, hfit, fun i hi => ?_⟩
    · have hspot : spot = none := by simpa [Addr.add] using World.cell?_spot (hcell 0 (by omega))
      rw [hspot]
    · have hspot : spot = none := by simpa [Addr.add] using World.cell?_spot (hcell 0 (by omega))
      subst hspot
      have := hcell i (by omega)
      rw [Addr.add_lit] at this
      exact ⟨_, this⟩
theorem row_of {m : Nat} {v0 : Value} {ns : List Int} {b : Nat × Nat} {W : World} (ho : CanOk Try.prog relsX 10 (canSl 120 [some m])) (hn : CanOk Try.prog relsX 10 (canSl 121 [some m])) (s0 : SlV W (some m) v0 ns [b]) : Calls Try.prog 10 #[v0] W fun e W' => e = .returned (.bool true) ∧ Below W.heap.size W W' := by
  have a := slAll_cons s0 (slAll_nil W)
  by_cases h : isEnc (ns ++ [])
  · exact walkS ho rfl a h
  · exact walkS hn rfl a h
/-- Whatever the slice. -/
theorem walk {W : World} {v0 : Value} {n0 : Nat} (a0 : SlV W none v0 [(n0 : Int)] []) (c0 : other n0 ∨ (∃ ns b, SlV W (some 1) v0 ns [b]) ∨ ∃ ns b, SlV W (some 57) v0 ns [b])
    (cn : v0 = .slice none 0 0 ∨ ∃ (a : Addr) (b : Nat × Nat) (n cap : Nat), v0 = .slice (some a) n cap ∧ (0 < n → a = ⟨b.1, b.2, none⟩) ∧ Fits .i64 (n : Int) ∧ ∀ i, i < n → ∃ x : Int, W.cell? ⟨b.1, b.2 + i, none⟩ = some (.int .u8 x)) :
    Calls Try.prog 10 #[v0] W fun e W' => e = .returned (.bool true) ∧ Below W.heap.size W W' := by
  rcases c0 with h0 | ⟨ns0, b0, s0⟩ | ⟨ns0, b0, s0⟩
  · rcases cn with rfl | ⟨a, b, n, cap, rfl, ha, hf, hc⟩
    · have hM : Mem (canOld [] (canNil 90).hp) [] [] (canNil 90).hp W W := ⟨rfl, by simp [canNil], by simp [canNil], by simp [canNil], by simp [canNil], Keep.refl _ _, by simp, by simp [canNil], by simp [canNil], by simp [canNil]⟩
      exact walkG (vs := [.slice none 0 0]) row11_0_ok rfl rfl (fun r g h => by simp [canNil] at h) hM rfl ⟨rfl, trivial⟩ trivial
    · have hn : (n0 : Int) = n := by
        obtain ⟨m, p, c, he, hm, _, _⟩ := a0
        cases he
        simpa using hm
      rw [hn] at h0
      have one : ∀ (r : Nat) (g : Reg), (canN 118).hp[r]? = some g → r = 0 ∧ g.cs = [] ∧ g.rw = false ∧ g.it = none ∧ g.bulk = some 0 := fun r g h => by
        cases r with
        | zero => simp [canN] at h; subst h; exact ⟨rfl, rfl, rfl, rfl, rfl⟩
        | succ r => simp [canN] at h
      have hM : Mem (canOld [b] (canN 118).hp) [(n : Int)] [b] (canN 118).hp W W := by
        refine ⟨rfl, ?_, ?_, ?_, ?_, Keep.refl _ _, ?_, ?_, ?_, ?_⟩
        · intro r g x e _ i c hc
          rw [(one r g e).2.1] at hc
          simp at hc
        · intro r g x e _ hw; rw [(one r g e).2.2.1] at hw; cases hw
        · intro r r' g g' x x' e e' _ _ _ hor
          rw [(one r g e).2.2.1, (one r' g' e').2.2.1] at hor
          rcases hor with h | h <;> cases h
        · intro r g x e _ hw; rw [(one r g e).2.2.1] at hw; cases hw
        · intro r g x _ ex hn _
          have h1 := lt_of_some ex
          simp at h1
          simp [canOld, canN] at hn
          omega
        · intro r g x s p e _ hit; rw [(one r g e).2.2.2.1] at hit; cases hit
        · intro r r' g g' x x' e _ _ _ hi; rw [(one r g e).2.2.2.1] at hi; cases hi
        · intro r g x i e ex hb
          obtain ⟨rfl, _, _, _, hbk⟩ := one r g e
          rw [hbk] at hb
          obtain rfl := Option.some.inj hb
          simp at ex
          subst ex
          refine ⟨n, rfl, fun j hj => ⟨?_, fun hS => ?_⟩⟩
          · obtain ⟨y, hy⟩ := hc j hj
            exact ⟨_, hy, rfl⟩
          · obtain ⟨j, g, x, k1, _, k3, _⟩ := hS
            rw [(one j g k1).2.2.1] at k3
            cases k3
      exact walkG (vs := [.slice (some a) n cap]) row11_n_ok rfl rfl (fun r g h => (one r g h).2.2.1) hM rfl ⟨⟨b, n, a, cap, rfl, rfl, rfl, ha, hf⟩, trivial⟩ ⟨h0, by show (0 : Int) ≤ n; omega⟩
  · exact row_of row11_c_ok row11_d_ok s0
  · exact row_of row11_a_ok row11_b_ok s0

set_option maxRecDepth 100000 in
theorem lifted (os : Os) (started : os.Started) (H : Type) (enc : TypeId × Value → H) :
    ReturnsInHanded {} Try.checked os 10 .any (Rows.fnP224ParseSpec.pre6 enc Try.prog Try.f10 Rows.fnP224ParseRow.domain false) (Rows.fnP224ParseSpec.post enc Try.prog Try.f10 false true false false) := by
  refine returnsInHanded_of_change (C := Try.checked) own started (by kernel_rfl) Try.func10
    (ChangeSpec.witness6 (enc := enc) (C := Try.checked) false ⟨#[], #[.slice none 0 0], []⟩ 8 (by kernel_rfl) (by kernel_rfl) (by kernel_rfl) (by kernel_rfl)) ?_
  intro W base args ds gs before hval0 hW hcnd _
  have hval : ∀ (j : Nat) t v, Try.f10.params[j]? = some t → args[j]? = some v → Value.okWide Try.prog W .any base t v := hval0
  have hW' := hW
  obtain ⟨p, q, hA0, hV, rfl, hfz, hnd⟩ := hW
  have hA : DataW.TrodAll enc Try.prog W 0 (fun _ => true) true Try.f10.params.toList args.toList ds p := hA0
  rw [Try.params10] at hA hval
  obtain ⟨v0, d0, rfl, rfl, h0⟩ := trodAll_one hA
  obtain ⟨rfl, rfl⟩ := trodVars_none hV
  obtain ⟨n0, a0, c0⟩ := openSl (hval 0 40 v0 rfl rfl) h0
  refine (walk a0 c0 (openN (hval 0 40 v0 rfl rfl) h0)).mono fun e W' ⟨he, hb⟩ => ⟨_, he, ?_⟩
  exact post_true laid readable (by kernel_rfl) Try.underlying4 rfl rfl hW' hb

theorem holds : Rows.FnP224ParseSaid :=
  OpenClaim.holds_of_wide 10 Try.f10 rfl rfl rfl rfl rfl rfl rfl ⟨rfl, rfl, rfl, rfl, rfl⟩ rfl rfl rfl rfl rfl (by kernel_rfl) Try.func10 (by kernel_rfl)
    (of_decide_eq_true (by kernel_rfl)) (by unfold Func.isWrapper; first | (rw [if_pos (by decide +kernel)]; kernel_rfl) | (rw [if_neg (by decide +kernel)]; exact ⟨rfl, rfl⟩))
    (fun os started H enc _ => lifted os started H enc)
end Go.Proofs.Ytkjfcpeabdimmaa.row11
