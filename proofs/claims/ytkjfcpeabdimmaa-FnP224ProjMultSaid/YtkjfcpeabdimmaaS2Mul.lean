/- The reference's sum, difference and product. -/
import Derived.Test.YtkjfcpeabdimmaaS2Red
set_option linter.unusedVariables false
set_option linter.unusedSimpArgs false
set_option linter.constructorNameAsVariable false
set_option maxRecDepth 100000
set_option maxHeartbeats 4000000
namespace Go.Sx
open Go.Proofs Go.FP Go.EC

def tabS : List (FuncId × Con) := [(46, (canReduced 7).con), (46, (canReduced 14).con)]
theorem tabS_ok : ∀ f con, (f, con) ∈ tabS → ConOk Try.prog relsF f con := tab_cons red7_con (tab_cons red14_con tab_nil)

/-- Words one by one. -/
def zipVC (op : BinOp) (K : List Int → Prop) : List Int → List Int → List Int → Prop
  | x :: xs, y :: ys, acc => ∀ r : Int, r = binFn op .i64 x y → zipVC op K xs ys (acc ++ [r])
  | _, _, acc => K acc
theorem zip_add {K : List Int → Prop} : ∀ (xs ys acc : List Int), r32 xs → r32 ys → xs.length = ys.length → bnd 8589934592 acc →
    (∀ o : List Int, o.length = acc.length + xs.length → bnd 8589934592 o → valL 4294967296 o = valL 4294967296 acc + 4294967296 ^ acc.length * (valL 4294967296 xs + valL 4294967296 ys) → K o) → zipVC .add K xs ys acc
  | [], _ :: _, _, _, _, hl, _, _ => by simp at hl
  | _ :: _, [], _, _, _, hl, _, _ => by simp at hl
  | [], [], acc, _, _, _, hb, hK => hK acc (by simp) hb (by simp [valL])
  | x :: xs, y :: ys, acc, hx, hy, hl, hb, hK => by
    intro r e
    have a0 := hx.1; have a1 := hx.2.1; have b0 := hy.1; have b1 := hy.2.1
    rw [add_i64 _ _ (by omega) (by omega)] at e
    refine zip_add xs ys _ hx.2.2 hy.2.2 (by simpa using hl) ?_ fun o ho hbo hv => hK o (by simp at ho ⊢; omega) hbo ?_
    · have app : ∀ l : List Int, bnd 8589934592 l → bnd 8589934592 (l ++ [r]) := by
        intro l
        induction l with
        | nil => intro _; exact ⟨by omega, by omega, trivial⟩
        | cons z l ih => intro h; exact ⟨h.1, h.2.1, ih h.2.2⟩
      exact app acc hb
    · rw [hv, valL_app]
      simp only [valL, List.length_append, List.length_cons, List.length_nil, Int.mul_zero, Int.add_zero, Nat.zero_add, Int.pow_succ]
      rw [e]
      generalize (4294967296 : Int) ^ acc.length = B
      grind
theorem zip_sub {K : List Int → Prop} : ∀ (xs ys acc : List Int), r32 xs → r32 ys → xs.length = ys.length → bnd 8589934592 acc →
    (∀ o : List Int, o.length = acc.length + xs.length → bnd 8589934592 o → valL 4294967296 o = valL 4294967296 acc + 4294967296 ^ acc.length * (valL 4294967296 xs - valL 4294967296 ys) → K o) → zipVC .sub K xs ys acc
  | [], _ :: _, _, _, _, hl, _, _ => by simp at hl
  | _ :: _, [], _, _, _, hl, _, _ => by simp at hl
  | [], [], acc, _, _, _, hb, hK => hK acc (by simp) hb (by simp [valL])
  | x :: xs, y :: ys, acc, hx, hy, hl, hb, hK => by
    intro r e
    have a0 := hx.1; have a1 := hx.2.1; have b0 := hy.1; have b1 := hy.2.1
    rw [sub_i64 _ _ (by omega) (by omega)] at e
    refine zip_sub xs ys _ hx.2.2 hy.2.2 (by simpa using hl) ?_ fun o ho hbo hv => hK o (by simp at ho ⊢; omega) hbo ?_
    · have app : ∀ l : List Int, bnd 8589934592 l → bnd 8589934592 (l ++ [r]) := by
        intro l
        induction l with
        | nil => intro _; exact ⟨by omega, by omega, trivial⟩
        | cons z l ih => intro h; exact ⟨h.1, h.2.1, ih h.2.2⟩
      exact app acc hb
    · rw [hv, valL_app]
      simp only [valL, List.length_append, List.length_cons, List.length_nil, Int.mul_zero, Int.add_zero, Nat.zero_add, Int.pow_succ]
      rw [e]
      generalize (4294967296 : Int) ^ acc.length = B
      grind

/-- The call of reduced, and what follows. -/
def callR (id : Nat) (i : List Int) (ws : List Int) : Prop := (relsF 26).pre ws ∧ alln 7 fun o => (relsF 26).post ws o → (relsF id).post i o
theorem callR_of {id : Nat} {i ws : List Int} (hb : bnd 8589934592 ws) (h : ∀ o : List Int, ok32 o → dec32 o = tF (val32 ws) → (relsF id).post i o) : callR id i ws := by
  refine ⟨hb, ?_⟩
  intro x0 x1 x2 x3 x4 x5 x6 hp
  exact h _ hp.1 hp.2

theorem plus_cond : Can.cond canPlus Try.prog X2 tabS relsF 50 4 = inp 14 0 0 (fun l => rngs (-9223372036854775808) 9223372036854775807 l ((relsF 24).pre l → zipVC .add (callR 24 l) (l.take 7) (l.drop 7) [])) := by kernel_rfl
theorem plus_con : ConOk Try.prog relsF 50 canPlus.con := can_of_cond hX2 hm2 (tab := tabS) tabS_ok 4 (by decide) (by
  rw [plus_cond]
  refine inp_of _ _ _ _ fun l hl => rngs_of _ _ fun _ hp => zip_add _ _ [] hp.1.1 hp.2.1 (by simp; omega) trivial fun o ho hb hv => callR_of hb fun o' hok hd => ⟨hok, ?_⟩
  rw [hd]
  have : val32 o = val32 (l.take 7) + val32 (l.drop 7) := by
    unfold val32
    rw [hv]
    simp [valL]
  rw [this, tF_add]
  rfl)
theorem minus_cond : Can.cond canMinus Try.prog X2 tabS relsF 49 4 = inp 14 0 0 (fun l => rngs (-9223372036854775808) 9223372036854775807 l ((relsF 25).pre l → zipVC .sub (callR 25 l) (l.take 7) (l.drop 7) [])) := by kernel_rfl
theorem minus_con : ConOk Try.prog relsF 49 canMinus.con := can_of_cond hX2 hm2 (tab := tabS) tabS_ok 4 (by decide) (by
  rw [minus_cond]
  refine inp_of _ _ _ _ fun l hl => rngs_of _ _ fun _ hp => zip_sub _ _ [] hp.1.1 hp.2.1 (by simp; omega) trivial fun o ho hb hv => callR_of hb fun o' hok hd => ⟨hok, ?_⟩
  rw [hd]
  have : val32 o = val32 (l.take 7) - val32 (l.drop 7) := by
    unfold val32
    rw [hv]
    simp [valL]
  rw [this, tF_sub]
  rfl)

/-! ### The product -/
def row0VC (K : List Int → Prop) (a : Int) : Int → List Int → List Int → Prop
  | o, b :: bs, acc => ∀ r : Int, r = IntKind.u64.wrap a → ∀ s : Int, s = IntKind.u64.wrap b → ∀ m : Int, m = binFn .mul .u64 r s → ∀ t : Int, t = binFn .add .u64 0 m → ∀ u : Int, u = binFn .add .u64 o t →
      ∀ v : Int, v = binFn .and .u64 u 4294967295 → ∀ w : Int, w = IntKind.i64.wrap v → ∀ q : Int, q = binFn .shr .u64 u 32 → row0VC K a q bs (acc ++ [w])
  | o, [], acc => ∀ h : Int, h = IntKind.i64.wrap o → K (acc ++ [h])
def rowVC (K : List Int → Prop) (a : Int) : Int → List Int → List Int → List Int → Prop
  | o, z :: zs, b :: bs, acc => ∀ y : Int, y = IntKind.u64.wrap z → ∀ r : Int, r = IntKind.u64.wrap a → ∀ s : Int, s = IntKind.u64.wrap b → ∀ m : Int, m = binFn .mul .u64 r s → ∀ t : Int, t = binFn .add .u64 y m → ∀ u : Int, u = binFn .add .u64 o t →
      ∀ v : Int, v = binFn .and .u64 u 4294967295 → ∀ w : Int, w = IntKind.i64.wrap v → ∀ q : Int, q = binFn .shr .u64 u 32 → rowVC K a q zs bs (acc ++ [w])
  | o, _, _, acc => ∀ h : Int, h = IntKind.i64.wrap o → K (acc ++ [h])
def timesVC (Q : List Int → Prop) (bs : List Int) : List Int → List Int → List Int → Prop
  | a :: us1, done, win => rowVC (fun out => match out with
    | x :: l => timesVC Q bs us1 (done ++ [x]) l
    | [] => False) a 0 win bs []
  | [], done, win => Q (done ++ win)
def times0VC (Q : List Int → Prop) : List Int → List Int → Prop
  | a :: us1, bs => row0VC (fun out => match out with
    | x :: l => timesVC Q bs us1 [x] l
    | [] => False) a 0 bs []
  | [], _ => False

theorem u_small {x : Int} (h0 : 0 ≤ x) (h1 : x < 4294967296) : IntKind.u64.wrap x = x := wrap_of_fits (k := .u64) ⟨h0, by simp only [kmax]; omega⟩
theorem i_small {x : Int} (h0 : 0 ≤ x) (h1 : x < 4294967296) : IntKind.i64.wrap x = x := wrap_of_fits (k := .i64) ⟨by simp only [kmin]; omega, by simp only [kmax]; omega⟩
theorem cell_step {a b z o m t u v w q : Int} (ha : 0 ≤ a ∧ a < 4294967296) (hb : 0 ≤ b ∧ b < 4294967296) (hz : 0 ≤ z ∧ z < 4294967296) (ho : 0 ≤ o ∧ o < 4294967296)
    (em : m = binFn .mul .u64 a b) (et : t = binFn .add .u64 z m) (eu : u = binFn .add .u64 o t) (ev : v = binFn .and .u64 u 4294967295) (ew : w = IntKind.i64.wrap v) (eq : q = binFn .shr .u64 u 32) :
    0 ≤ w ∧ w < 4294967296 ∧ 0 ≤ q ∧ q < 4294967296 ∧ o + z + a * b = w + 4294967296 * q := by
  have h := mul_le2 ha.1 (show a ≤ 4294967295 by omega) hb.1 (show b ≤ 4294967295 by omega)
  rw [mul_u64] at em
  generalize a * b = p at *
  rw [Int.emod_eq_of_lt (by omega) (by omega)] at em
  subst em
  rw [add_small (by omega) (by omega)] at et
  subst et
  rw [add_small (by omega) (by omega)] at eu
  rw [and_u64_32] at ev
  rw [shr_u64_32] at eq
  rw [i_small (by omega) (by omega)] at ew
  omega
theorem row0VC_of {K : List Int → Prop} {a : Int} (ha : 0 ≤ a ∧ a < 4294967296) : ∀ (bs acc : List Int) (o : Int), 0 ≤ o → o < 4294967296 → r32 bs → r32 acc →
    (∀ out : List Int, out.length = bs.length + 1 → r32 (acc ++ out) → valL 4294967296 out = o + a * valL 4294967296 bs → K (acc ++ out)) → row0VC K a o bs acc
  | [], acc, o, h0, h1, _, hacc, hK => by
    intro h e
    rw [i_small h0 h1] at e
    subst e
    exact hK [h] rfl (rng_append hacc ⟨h0, h1, trivial⟩) (by simp [valL])
  | b :: bs, acc, o, h0, h1, hb, hacc, hK => by
    intro r er s es m em t et u eu v ev w ew q eq
    rw [u_small ha.1 ha.2] at er
    rw [u_small hb.1 hb.2.1] at es
    subst er es
    obtain ⟨w0, w1, q0, q1, k⟩ := cell_step ha ⟨hb.1, hb.2.1⟩ (z := 0) (by omega) ⟨h0, h1⟩ em et eu ev ew eq
    refine row0VC_of ha bs _ q q0 q1 hb.2.2 (rng_append hacc ⟨w0, w1, trivial⟩) fun out hl hr hv => ?_
    rw [List.append_assoc] at hr ⊢
    refine hK (w :: out) (by simp [hl]) hr ?_
    simp only [valL]
    rw [hv]
    grind
theorem rowVC_of {K : List Int → Prop} {a : Int} (ha : 0 ≤ a ∧ a < 4294967296) : ∀ (zs bs acc : List Int) (o : Int), 0 ≤ o → o < 4294967296 → r32 zs → r32 bs → zs.length = bs.length → r32 acc →
    (∀ out : List Int, out.length = bs.length + 1 → r32 (acc ++ out) → valL 4294967296 out = o + valL 4294967296 zs + a * valL 4294967296 bs → K (acc ++ out)) → rowVC K a o zs bs acc
  | [], _ :: _, _, _, _, _, _, _, hl, _, _ => by simp at hl
  | _ :: _, [], _, _, _, _, _, _, hl, _, _ => by simp at hl
  | [], [], acc, o, h0, h1, _, _, _, hacc, hK => by
    intro h e
    rw [i_small h0 h1] at e
    subst e
    exact hK [h] rfl (rng_append hacc ⟨h0, h1, trivial⟩) (by simp [valL])
  | z :: zs, b :: bs, acc, o, h0, h1, hz, hb, hlen, hacc, hK => by
    intro y ey r er s es m em t et u eu v ev w ew q eq
    rw [u_small ha.1 ha.2] at er
    rw [u_small hb.1 hb.2.1] at es
    rw [u_small hz.1 hz.2.1] at ey
    subst er es ey
    obtain ⟨w0, w1, q0, q1, k⟩ := cell_step ha ⟨hb.1, hb.2.1⟩ ⟨hz.1, hz.2.1⟩ ⟨h0, h1⟩ em et eu ev ew eq
    refine rowVC_of ha zs bs _ q q0 q1 hz.2.2 hb.2.2 (by simpa using hlen) (rng_append hacc ⟨w0, w1, trivial⟩) fun out hl hr hv => ?_
    rw [List.append_assoc] at hr ⊢
    refine hK (w :: out) (by simp [hl]) hr ?_
    simp only [valL]
    rw [hv]
    grind
theorem rng_app_inv {b : Int} : ∀ {l m : List Int}, rng b (l ++ m) → rng b l ∧ rng b m
  | [], _, h => ⟨trivial, h⟩
  | _ :: _, _, h => ⟨⟨h.1, h.2.1, (rng_app_inv h.2.2).1⟩, (rng_app_inv h.2.2).2⟩
theorem times_glue {B x l w a u s : Int} (h : x + 4294967296 * l = w + a * s) : B * x + B * 4294967296 * (l + u * s) = B * (w + (a + 4294967296 * u) * s) := by
  have h2 : B * (x + 4294967296 * l) = B * (w + a * s) := by rw [h]
  grind
theorem timesVC_of {Q : List Int → Prop} {bs : List Int} (hbs : r32 bs) : ∀ (us1 done win : List Int), r32 us1 → r32 done → r32 win → win.length = bs.length →
    (∀ F : List Int, r32 F → valL 4294967296 F = valL 4294967296 done + 4294967296 ^ done.length * (valL 4294967296 win + valL 4294967296 us1 * valL 4294967296 bs) → Q F) → timesVC Q bs us1 done win
  | [], done, win, _, hd, hw, hl, hQ => hQ _ (rng_append hd hw) (by rw [valL_app]; simp [valL])
  | a :: us1, done, win, ha, hd, hw, hl, hQ => by
    refine rowVC_of ⟨ha.1, ha.2.1⟩ win bs [] 0 (by decide) (by decide) hw hbs hl trivial fun out ho hr hv => ?_
    cases out with
    | nil => simp at ho
    | cons x l =>
      simp only [List.nil_append] at hr ⊢
      refine timesVC_of hbs us1 _ l ha.2.2 (rng_append hd ⟨hr.1, hr.2.1, trivial⟩) hr.2.2 (by simpa using ho) fun F hF hvF => hQ F hF ?_
      rw [hvF, valL_app]
      simp only [valL, List.length_append, List.length_cons, List.length_nil, Int.mul_zero, Int.add_zero, Nat.zero_add, Int.pow_succ] at hv ⊢
      rw [Int.add_assoc]
      congr 1
      exact times_glue (by omega)
theorem bnd_of_r32 : ∀ {l : List Int}, r32 l → bnd 8589934592 l
  | [], _ => trivial
  | x :: l, h => ⟨by have := h.1; omega, by have := h.2.1; omega, bnd_of_r32 h.2.2⟩
theorem times_cond : Can.cond canTimes Try.prog X2 tabS relsF 24 4 = inp 14 0 0 (fun l => rngs (-9223372036854775808) 9223372036854775807 l ((relsF 23).pre l → times0VC (callR 23 l) (l.take 7) (l.drop 7))) := by kernel_rfl
theorem times0_of {Q : List Int → Prop} {us1 bs : List Int} (ha : r32 us1) (hb : r32 bs) (hl : us1 ≠ []) (hQ : ∀ F : List Int, r32 F → val32 F = val32 us1 * val32 bs → Q F) : times0VC Q us1 bs := by
  cases us1 with
  | nil => exact (hl rfl).elim
  | cons a us1 =>
    refine row0VC_of ⟨ha.1, ha.2.1⟩ bs [] 0 (by decide) (by decide) hb trivial fun out ho hr hv => ?_
    cases out with
    | nil => simp at ho
    | cons x l =>
      simp only [List.nil_append] at hr ⊢
      refine timesVC_of hb us1 [x] l ha.2.2 ⟨hr.1, hr.2.1, trivial⟩ hr.2.2 (by simpa using ho) fun F hF hvF => hQ F hF ?_
      unfold val32
      rw [hvF]
      simp only [valL, List.length_cons, List.length_nil, Nat.zero_add, Int.pow_succ, Int.pow_zero, Int.one_mul, Int.mul_zero, Int.add_zero] at hv ⊢
      grind
theorem times_con : ConOk Try.prog relsF 24 canTimes.con := can_of_cond hX2 hm2 (tab := tabS) tabS_ok 4 (by decide) (by
  rw [times_cond]
  refine inp_of _ _ _ _ fun l hl => rngs_of _ _ fun _ hp => times0_of hp.1.1 hp.2.1 (fun e => by have := congrArg List.length e; simp [hl] at this) fun F hF hv => callR_of (bnd_of_r32 hF) fun o' hok hd => ⟨hok, ?_⟩
  rw [hd, hv, tF_mul]
  rfl)
end Go.Sx
