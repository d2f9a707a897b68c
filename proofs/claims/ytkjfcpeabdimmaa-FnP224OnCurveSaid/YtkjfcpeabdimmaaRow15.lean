/- Row FnP224OnCurve: the answer is true. -/
import Derived.Test.YtkjfcpeabdimmaaRowSl
set_option linter.unusedVariables false
set_option linter.unusedSimpArgs false
set_option linter.constructorNameAsVariable false
set_option maxRecDepth 100000
set_option maxHeartbeats 4000000
namespace Go.Sx
open Go.Proofs Go.FP Go.EC
def row15VC (m k ask far fin : Nat) (P : List Int → Prop) (l : List Int) : Prop :=
  rdK m (l.take m) (P [1]) (rdK k (l.drop m) (P [1]) (sumK ask far fin l (fun o => rdK 1 o (P [0]) (P [1])) (fun o => rdK 57 o (P [0]) (P [1]))))
theorem row15_11 : Can.condT (canSl 90 [some 1, some 1]) Try.prog X2 tabD relsR2 13 30 = inp 2 0 255 (fun l => rngs 0 255 l ((relsR2 90).pre l → row15VC 1 1 84 80 81 (fun o => (relsR2 90).post l o) l)) := by kernel_rfl
theorem row15_157 : Can.condT (canSl 90 [some 1, some 57]) Try.prog X2 tabD relsR2 13 30 = inp 58 0 255 (fun l => rngs 0 255 l ((relsR2 90).pre l → row15VC 1 57 84 80 81 (fun o => (relsR2 90).post l o) l)) := by kernel_rfl
theorem row15_571 : Can.condT (canSl 90 [some 57, some 1]) Try.prog X2 tabD relsR2 13 30 = inp 58 0 255 (fun l => rngs 0 255 l ((relsR2 90).pre l → row15VC 57 1 85 82 83 (fun o => (relsR2 90).post l o) l)) := by kernel_rfl
theorem row15_5757 : Can.condT (canSl 90 [some 57, some 57]) Try.prog X2 tabD relsR2 13 30 = inp 114 0 255 (fun l => rngs 0 255 l ((relsR2 90).pre l → row15VC 57 57 85 82 83 (fun o => (relsR2 90).post l o) l)) := by kernel_rfl
theorem row15_law {m k ask far fin : Nat} (ea : relsD ask = relAskSum m) (e0 : relsD far = relSumFar m) (e1 : relsD fin = relSumFin m) (hm : m = 1 ∨ m = 57) (hk : k = 1 ∨ k = 57) {l : List Int} (hl : l.length = m + k) : row15VC m k ask far fin (fun o => (relsR2 90).post l o) l := by
  have t1 : (fun o => (relsR2 90).post l o) [1] := (by decide : (1 : Int) ≠ 0)
  refine rdK_of hm (by simp [hl]) (fun ⟨P, hP⟩ => rdK_of hk (by simp [hl]) (fun ⟨Q, hQ⟩ => ?_) fun _ => t1) fun _ => t1
  exact sumK_of ea e0 e1 ⟨hP, hQ⟩ (fun o lo ho => rdK_of (.inl rfl) lo (fun _ => t1) fun h => (h ⟨_, ho⟩).elim) (fun o lo ho => rdK_of (.inr rfl) lo (fun _ => t1) fun h => (h ⟨_, ho⟩).elim)
theorem row15_11_ok : CanOk Try.prog relsR2 13 (canSl 90 [some 1, some 1]) := can_of_condT hX2 hm2 (tab := tabD) tabR2_ok 30 (by decide) (by rw [row15_11]; exact inp_of _ _ _ _ fun l hl => rngs_of _ _ fun _ _ => row15_law rfl rfl rfl (.inl rfl) (.inl rfl) hl)
theorem row15_157_ok : CanOk Try.prog relsR2 13 (canSl 90 [some 1, some 57]) := can_of_condT hX2 hm2 (tab := tabD) tabR2_ok 30 (by decide) (by rw [row15_157]; exact inp_of _ _ _ _ fun l hl => rngs_of _ _ fun _ _ => row15_law rfl rfl rfl (.inl rfl) (.inr rfl) hl)
theorem row15_571_ok : CanOk Try.prog relsR2 13 (canSl 90 [some 57, some 1]) := can_of_condT hX2 hm2 (tab := tabD) tabR2_ok 30 (by decide) (by rw [row15_571]; exact inp_of _ _ _ _ fun l hl => rngs_of _ _ fun _ _ => row15_law rfl rfl rfl (.inr rfl) (.inl rfl) hl)
theorem row15_5757_ok : CanOk Try.prog relsR2 13 (canSl 90 [some 57, some 57]) := can_of_condT hX2 hm2 (tab := tabD) tabR2_ok 30 (by decide) (by rw [row15_5757]; exact inp_of _ _ _ _ fun l hl => rngs_of _ _ fun _ _ => row15_law rfl rfl rfl (.inr rfl) (.inr rfl) hl)
/-- Where a length is another one. -/
def row15o (P : List Int → Prop) (l : List Int) : Prop := gtK (nth 0 l 0) (P [1]) (gtK (nth 0 l 1) (P [1]) (othK (nth 0 l 0) (P [1])))
def row15p (m : Nat) (P : List Int → Prop) (l : List Int) : Prop := gtK (nth 0 l m) (P [1]) (rdK m (l.take m) (P [1]) (othK (nth 0 l m) (P [1])))
theorem row15_oo : Can.condT (canSl 92 [none, none]) Try.prog X2 tabD relsR2 13 30 = slCond 92 [none, none] row15o := by kernel_rfl
theorem row15_1o : Can.condT (canSl 91 [some 1, none]) Try.prog X2 tabD relsR2 13 30 = slCond 91 [some 1, none] (row15p 1) := by kernel_rfl
theorem row15_57o : Can.condT (canSl 91 [some 57, none]) Try.prog X2 tabD relsR2 13 30 = slCond 91 [some 57, none] (row15p 57) := by kernel_rfl
theorem row15_oo_ok : CanOk Try.prog relsR2 13 (canSl 92 [none, none]) := can_of_condT hX2 hm2 (tab := tabD) tabR2_ok 30 (by decide) (by
  rw [row15_oo]
  exact slCond_of fun l hl hp => gtK_of ok92 (gtK_of ok92 (othK_of hp ok92)))
theorem row15_1o_ok : CanOk Try.prog relsR2 13 (canSl 91 [some 1, none]) := can_of_condT hX2 hm2 (tab := tabD) tabR2_ok 30 (by decide) (by
  rw [row15_1o]
  refine slCond_of fun l hl hp => gtK_of ok91 (rdK_of (.inl rfl) (by rw [List.length_take, hl]; decide) (fun _ => othK_of (by have h := last_at (n := 1) (hl.trans (by decide)); rw [← h]; exact hp) ok91) fun _ => ok91))
theorem row15_57o_ok : CanOk Try.prog relsR2 13 (canSl 91 [some 57, none]) := can_of_condT hX2 hm2 (tab := tabD) tabR2_ok 30 (by decide) (by
  rw [row15_57o]
  refine slCond_of fun l hl hp => gtK_of ok91 (rdK_of (.inr rfl) (by rw [List.length_take, hl]; decide) (fun _ => othK_of (by have h := last_at (n := 57) (hl.trans (by decide)); rw [← h]; exact hp) ok91) fun _ => ok91))
end Go.Sx
