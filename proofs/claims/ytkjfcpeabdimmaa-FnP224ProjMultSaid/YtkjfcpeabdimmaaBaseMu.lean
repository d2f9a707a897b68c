/- The law of the reference's multiple. -/
import Derived.Test.YtkjfcpeabdimmaaPtMul
set_option linter.unusedVariables false
set_option linter.unusedSimpArgs false
set_option linter.constructorNameAsVariable false
set_option maxRecDepth 100000
set_option maxHeartbeats 4000000
namespace Go.Sx
open Go.Proofs Go.FP Go.EC
theorem nthD {α : Type} {z : α} : ∀ (l : List α) (i : Nat), nth z l i = (l[i]?).getD z
  | [], i => by simp [nth]
  | a :: l, 0 => rfl
  | a :: l, i + 1 => by simp [nth, nthD l i]
theorem nthA {α : Type} {z : α} {l m : List α} {i : Nat} (h : i < l.length) : nth z (l ++ m) i = nth z l i := by rw [nthD, nthD, List.getElem?_append_left h]
section
variable {l z : List Int} (hl : l.length = 44)
include hl
theorem t28 : (l ++ z).take 28 = l.take 28 := by rw [List.take_append_of_le_length (by omega)]
theorem d28 : ((l ++ z).drop 28).take 7 = (l.drop 28).take 7 := by rw [List.drop_append_of_le_length (by omega), List.take_append_of_le_length (by simp; omega)]
theorem d35 : ((l ++ z).drop 35).take 7 = (l.drop 35).take 7 := by rw [List.drop_append_of_le_length (by omega), List.take_append_of_le_length (by simp; omega)]
theorem mOk_app : mOk (l ++ z) ↔ mOk l := by unfold mOk; rw [t28 hl, d28 hl, d35 hl]
theorem mP_app : mP (l ++ z) = mP l := by unfold mP; rw [d28 hl, d35 hl]
theorem mCount_app {idx : Nat} (h : idx < 28) (i : Int) : mCount (l ++ z) idx i = mCount l idx i := by
  unfold mCount
  rw [List.take_append_of_le_length (by omega), nthA (by omega)]
theorem multInv_app {idx : Nat} (h : idx < 28) (i : Int) (s : List Int) : multInv idx (l ++ (i :: s)) ↔ mOk l ∧ -1 ≤ i ∧ i ≤ 7 ∧ okJ s 0 ∧ repJ s 0 (nmul iv (mP l) (mCount l idx i)) := by
  have e1 : nth 0 (l ++ (i :: s)) 44 = i := by
    rw [nthD, List.getElem?_append_right (by omega), hl]
    rfl
  have e2 : (l ++ (i :: s)).drop 45 = s := by
    rw [show (45 : Nat) = 44 + 1 from rfl, ← List.drop_drop, drop_app hl]
    rfl
  unfold multInv
  rw [e1, e2, mOk_app hl, mP_app hl, mCount_app hl h]
end
theorem byte_of {l : List Int} (h : mOk l) (hl : l.length = 44) {idx : Nat} (hi : idx < 28) : 0 ≤ nth 0 l idx ∧ nth 0 l idx < 256 := by
  have : ∀ (m : List Int) (k : Nat), rng 256 m → k < m.length → 0 ≤ nth 0 m k ∧ nth 0 m k < 256 := by
    intro m
    induction m with
    | nil => intro k _ hk; exact absurd hk (Nat.not_lt_zero _)
    | cons a m ih =>
      intro k hr hk
      cases k with
      | zero => exact ⟨hr.1, hr.2.1⟩
      | succ k => exact ih k hr.2.2 (by simpa using hk)
  have h2 := this (l.take 28) idx h.1 (by simp; omega)
  rw [nthD, List.getElem?_take, if_pos hi, ← nthD] at h2
  exact h2
theorem count_7 {l : List Int} {idx : Nat} (hb : 0 ≤ nth 0 l idx ∧ nth 0 l idx < 256) : mCount l idx 7 = (valB (l.take idx)).toNat := by
  unfold mCount
  have e : (nth 0 l idx).toNat / 2 ^ ((7 : Int) + 1).toNat = 0 := by
    rw [show ((7 : Int) + 1).toNat = 8 from rfl]
    omega
  rw [e]
  simp
theorem count_m1 {l : List Int} {idx : Nat} : mCount l idx (-1) = (valB (l.take idx)).toNat * 256 + (nth 0 l idx).toNat := by
  unfold mCount
  rw [show ((7 : Int) - -1).toNat = 8 from rfl, show ((-1 : Int) + 1).toNat = 0 from rfl]
  simp
theorem count_step {l : List Int} {idx : Nat} {i : Int} (h0 : 0 ≤ i) (h7 : i ≤ 7) : mCount l idx (i - 1) = 2 * mCount l idx i + (nth 0 l idx).toNat / 2 ^ i.toNat % 2 := by
  unfold mCount
  rw [show (7 - (i - 1)).toNat = (7 - i).toNat + 1 by omega, show (i - 1 + 1).toNat = i.toNat by omega, show (i + 1).toNat = i.toNat + 1 by omega, Nat.pow_succ, Nat.pow_succ, ← Nat.div_div_eq_div_mul]
  generalize (nth 0 l idx).toNat / 2 ^ i.toNat = q
  generalize (valB (l.take idx)).toNat = V
  generalize 2 ^ (7 - i).toNat = e
  rw [← Nat.mul_assoc]
  generalize V * e = w
  omega
theorem val_next {l : List Int} (h : rng 256 (l.take 28)) {idx : Nat} (hi : idx < 28) (hl : 28 ≤ l.length) : (valB (l.take (idx + 1))).toNat = (valB (l.take idx)).toNat * 256 + (nth 0 l idx).toNat := by
  have e : l.take (idx + 1) = l.take idx ++ [nth 0 l idx] := by
    rw [List.take_add_one, nthD]
    have hlt : idx < l.length := by omega
    simp [hlt]
  have hr : rng 256 (l.take idx) := by
    have := rng_take idx h
    rwa [List.take_take, show min idx 28 = idx by omega] at this
  have h0 := valB_nonneg hr
  have hb : 0 ≤ nth 0 l idx := by
    have : rng 256 (l.take (idx + 1)) := by
      have := rng_take (idx + 1) h
      rwa [List.take_take, show min (idx + 1) 28 = idx + 1 by omega] at this
    rw [e] at this
    have h2 := rng_drop (l.take idx).length this
    rw [drop_app rfl] at h2
    exact h2.1
  rw [e, valB_hv, hv_app, ← valB_hv]
  omega
theorem shr_bit {b i : Int} (hb : 0 ≤ b) (h0 : 0 ≤ i) (h7 : i ≤ 7) : binFn .and .u8 (binFn .shr .u8 b i) 1 = ((b.toNat / 2 ^ i.toNat % 2 : Nat) : Int) := by
  rw [and_u8_1]
  have e : binFn .shr .u8 b i = b / 2 ^ i.toNat := by
    show b.fdiv (2 ^ (min i.toNat 8)) = _
    rw [show min i.toNat 8 = i.toNat by omega, fdiv_pow]
  rw [e]
  have hb' : b = (b.toNat : Int) := by omega
  generalize b.toNat = n at *
  subst hb'
  rw [Int.natCast_emod, Int.natCast_ediv, Int.natCast_pow]
  rfl
theorem relsM_inv {idx : Nat} (h : idx < 28) : relsM (200 + idx) = relMInv idx := by
  unfold relsM
  rw [if_pos (by omega), Nat.add_sub_cancel_left]
theorem relsM_next {idx : Nat} (h : idx < 28) : relsM (1200 + idx) = relMNext idx := by
  unfold relsM
  rw [if_neg (by omega), if_pos (by omega)]
  congr 1
  omega
theorem w7_app {t z : List Int} (ht : t.length = 21) {k : Nat} (hk : k < 3) : w7 (t ++ z) k = w7 t k := by
  simp only [w7]
  rw [List.drop_append_of_le_length (by omega), List.take_append_of_le_length (by simp; omega)]
theorem w7_past {t z : List Int} (ht : t.length = 21) (k : Nat) : w7 (t ++ z) (k + 3) = w7 z k := by
  simp only [w7]
  rw [show 7 * (k + 3) = 21 + 7 * k by omega, ← List.drop_drop, drop_app ht]
theorem okJ_app {t z : List Int} (ht : t.length = 21) (h : okJ t 0) : okJ (t ++ z) 0 := by
  unfold okJ at *
  rw [w7_app ht (by omega), w7_app ht (by omega), w7_app ht (by omega)]
  exact h
theorem repJ_app {t z : List Int} (ht : t.length = 21) {P : Pt p} (h : repJ t 0 P) : repJ (t ++ z) 0 P := by
  unfold repJ at *
  rw [w7_app ht (by omega), w7_app ht (by omega), w7_app ht (by omega)]
  exact h
theorem w7_xy {l z : List Int} (hl : l.length = 44) : w7 ((l.drop 28).take 14 ++ z) 0 = (l.drop 28).take 7 ∧ w7 ((l.drop 28).take 14 ++ z) 1 = (l.drop 35).take 7 ∧ ∀ k, w7 ((l.drop 28).take 14 ++ z) (k + 2) = w7 z k := by
  have e : ((l.drop 28).take 14).length = 14 := by simp; omega
  refine ⟨?_, ?_, fun k => ?_⟩
  · simp only [w7, Nat.mul_zero, List.drop_zero]
    rw [List.take_append_of_le_length (by omega), List.take_take]
    rfl
  · simp only [w7]
    rw [List.drop_append_of_le_length (by omega), List.take_append_of_le_length (by simp; omega), List.drop_take, List.drop_drop, List.take_take]
    rfl
  · simp only [w7]
    rw [show 7 * (k + 2) = 14 + 7 * k by omega, ← List.drop_drop, drop_app e]
theorem next_of {l h s' : List Int} {idx : Nat} {i : Int} (hl : l.length = 44) (hi : idx < 28) (lh : h.length = 25) (h0 : nth 0 h 0 = i) (g0 : 0 ≤ i) (g7 : i ≤ 7) (hm : mOk l) (ho : okJ s' 0) (hr : repJ s' 0 (nmul iv (mP l) (mCount l idx (i - 1)))) :
    opR .sub .i64 (nth 0 h 0) 1 fun i' => callM (1200 + idx) 0 (l ++ (h ++ (i' :: s'))) fun _ => False := by
  refine opR_of ?_
  rw [h0, sub_i64 _ _ (by omega) (by omega)]
  unfold callM
  rw [relsM_next hi]
  have e1 : (l ++ (h ++ ((i - 1) :: s'))).take 44 = l := take_app hl
  have e2 : (l ++ (h ++ ((i - 1) :: s'))).drop 44 = h ++ ((i - 1) :: s') := drop_app hl
  have e3 : (l ++ (h ++ ((i - 1) :: s'))).drop 69 = (i - 1) :: s' := by rw [show (69 : Nat) = 44 + 25 from rfl, ← List.drop_drop, e2, drop_app lh]
  refine ⟨⟨?_, ?_⟩, fun h => h⟩
  · rw [e1, e3]
    exact (multInv_app hl hi (i - 1) s').2 ⟨hm, by omega, by omega, ho, hr⟩
  · rw [e1, e2, e3, take_app lh]
    unfold multMu
    have a1 : nth 0 (l ++ ((i - 1) :: s')) 44 = i - 1 := by
      rw [nthD, List.getElem?_append_right (by omega), hl]
      rfl
    have a2 : nth 0 (l ++ h) 44 = i := by
      rw [nthD, List.getElem?_append_right (by omega), hl, ← nthD]
      exact h0
    rw [a1, a2]
    omega
theorem bits_of {l s : List Int} {idx : Nat} {K : List Int → Prop} (hl : l.length = 44) (hi : idx < 28) (hm : mOk l) (hs : okJ s 0) (hR : repJ s 0 (nmul iv (mP l) (valB (l.take idx)).toNat))
    (hK : ∀ s' : List Int, s'.length = 24 → okJ s' 0 → repJ s' 0 (nmul iv (mP l) (valB (l.take (idx + 1))).toNat) → K s') : bitsVC l idx s K := by
  have hb := byte_of hm hl hi
  have hon : On bF (mP l) := hm.2.2.2
  unfold bitsVC
  refine callM_of (by rw [relsM_inv hi]; exact (multInv_app hl hi 7 s).2 ⟨hm, by omega, by omega, hs, by rw [count_7 hb]; exact hR⟩) fun h lh ho => ?_
  rw [relsM_inv hi] at ho
  have ho' : multInv idx ((l ++ (7 :: s)).take 44 ++ h) := ho
  rw [take_app hl] at ho'
  match h, lh with
  | i :: s1, lh =>
    have ls1 : s1.length = 24 := by simpa using lh
    obtain ⟨_, g1, g7, hs1, hR1⟩ := (multInv_app hl hi i s1).1 ho'
    refine geK_of (fun g0' => ?_) fun gn' => ?_
    · have g0 : 0 ≤ i := g0'
      refine callM_of (show okJ ((i :: s1).drop 1) 0 from hs1) fun t lt ht => ?_
      obtain ⟨ot, rt⟩ : okJ t 0 ∧ ∀ P, repJ ((i :: s1).drop 1) 0 P → repJ t 0 (asum iv P P) := ht
      have hT := rt _ hR1
      rw [← nmul_two good hon] at hT
      refine ⟨⟨fun h => Bool.noConfusion h, fun _ => g0⟩, fun u hu => opR_of ?_⟩
      have hbit : binFn .and .u8 u 1 = (((nth 0 l idx).toNat / 2 ^ i.toNat % 2 : Nat) : Int) := by
        rw [hu]
        exact shr_bit hb.1 g0 g7
      rw [hbit]
      have hstep := count_step (l := l) (idx := idx) g0 g7
      refine byteK_of (fun e1 => ?_) fun e0 => ?_
      · have e1' : (nth 0 l idx).toNat / 2 ^ i.toNat % 2 = 1 := by omega
        rw [e1'] at hstep
        have hz2 : ∀ z, w7 (t ++ z) 2 = w7 t 2 := fun z => w7_app lt (by omega)
        refine callM_of trivial fun q lq hq => ?_
        have hq' : isB q (dec32 (w7 (t ++ ((l.drop 28).take 14 ++ ([7, 7, 14] ++ l.drop 42))) 2) = 0) := hq
        rw [hz2] at hq'
        obtain ⟨x1, x2, x3⟩ := w7_xy (z := [7, 7, 14] ++ l.drop 42) hl
        match q, lq with
        | [b], _ =>
          by_cases hz : dec32 (w7 t 2) = 0
          · have e1 : b = 1 := hq'.1 hz
            subst e1
            refine ⟨fun _ => callM_of ⟨by rw [hz2]; exact ot.2.2, by rw [hz2]; exact hz⟩ fun _ _ _ => ?_, fun k => absurd k (by decide)⟩
            obtain ⟨y1, y2, y3⟩ := w7_xy (z := wN 1 ++ (l.drop 42 ++ [7])) hl
            have y4 : w7 ((l.drop 28).take 14 ++ (wN 1 ++ (l.drop 42 ++ [7]))) 2 = wN 1 := by rw [y3 0]; rfl
            have hnone : nmul iv (mP l) (2 * mCount l idx i) = none := (rep_jback good hT).1 hz
            refine next_of (i := i) hl hi lh rfl g0 g7 hm ?_ ?_
            · unfold okJ
              rw [y1, y2, y4]
              exact ⟨hm.2.1, hm.2.2.1, w32_1.ok⟩
            · rw [hstep, nmul, hnone, none_asum]
              unfold repJ
              rw [y1, y2, y4, w32_1.dec]
              exact rep_jone good hm.2.2.2
          · have e0 : b = 0 := hq'.2 hz
            subst e0
            have a3 : w7 (t ++ ((l.drop 28).take 14 ++ ([7, 7, 14] ++ l.drop 42))) 3 = (l.drop 28).take 7 := by rw [w7_past lt 0, x1]
            have a4 : w7 (t ++ ((l.drop 28).take 14 ++ ([7, 7, 14] ++ l.drop 42))) 4 = (l.drop 35).take 7 := by rw [w7_past lt 1, x2]
            refine ⟨fun k => absurd rfl k, fun _ => callM_of ⟨okJ_app lt ot, by rw [hz2]; exact hz, by
              unfold affQ
              rw [a3, a4]
              exact ⟨hm.2.1, hm.2.2.1, hm.2.2.2⟩⟩ fun t' lt' ht' => ?_⟩
            obtain ⟨ot', rt'⟩ : okJ t' 0 ∧ ∀ P, repJ (t ++ ((l.drop 28).take 14 ++ ([7, 7, 14] ++ l.drop 42))) 0 P → repJ t' 0 (asum iv P (some (dec32 (w7 (t ++ ((l.drop 28).take 14 ++ ([7, 7, 14] ++ l.drop 42))) 3), dec32 (w7 (t ++ ((l.drop 28).take 14 ++ ([7, 7, 14] ++ l.drop 42))) 4)))) := ht'
            have hT' := rt' _ (repJ_app lt hT)
            rw [a3, a4] at hT'
            refine next_of (i := i) hl hi lh rfl g0 g7 hm (okJ_app lt' ot') ?_
            rw [hstep]
            exact repJ_app lt' hT'
      · have e0' : (nth 0 l idx).toNat / 2 ^ i.toNat % 2 = 0 := by omega
        rw [e0', Nat.add_zero] at hstep
        refine next_of (i := i) hl hi lh rfl g0 g7 hm (okJ_app lt ot) ?_
        rw [hstep]
        exact repJ_app lt hT
    · have gn : ¬ 0 ≤ i := gn'
      have ei : i = -1 := by omega
      subst ei
      refine hK s1 ls1 hs1 ?_
      rw [val_next hm.1 hi (by omega), ← count_m1]
      exact hR1
theorem bytes_of {l : List Int} {K : List Int → Prop} (hl : l.length = 44) (hm : mOk l) (hK : ∀ s' : List Int, s'.length = 24 → okJ s' 0 → repJ s' 0 (mTot l) → K s') : ∀ (n idx : Nat) (s : List Int), idx + n = 28 → s.length = 24 → okJ s 0 → repJ s 0 (nmul iv (mP l) (valB (l.take idx)).toNat) → bytesVC l K n idx s
  | 0, idx, s, hn, ls, hs, hr => hK s ls hs (by
    have : idx = 28 := by omega
    subst this
    exact hr)
  | n + 1, idx, s, hn, ls, hs, hr => bits_of hl (by omega) hm hs hr fun s' ls' hs' hr' => bytes_of hl hm hK n (idx + 1) s' (by omega) ls' hs' hr'
end Go.Sx

/- The reference's multiple: the way back, and the contracts. -/
set_option maxRecDepth 100000
set_option maxHeartbeats 4000000
namespace Go.Sx
open Go.Proofs Go.FP Go.EC
theorem far2_cond : RestCond Try.prog X2 tabMu relsM (fun c => fId c == 8) mStrat Try.f31 canMultFar (csM 149) (restC 3 body31) 200 = alln 68 fun l => (relsM 1149).pre l → bytesVC (l.take 44) (backVC ((relsM 147).post (l.take 44) []) fun _ => False) 28 0 (l.drop 44) := by kernel_rfl
theorem back_of {A : Prop} {Q : List Int → Prop} {s : List Int} {P : Pt p} (ls : 21 ≤ s.length) (ho : okJ s 0) (hr : repJ s 0 P) (hA : P = none → A) (hQ : ∀ x y x' y', W32 x x' → W32 y y' → P = some (x', y') → Q (x ++ y)) : backVC A Q s := by
  have lw : ∀ k, k < 3 → (w7 s k).length = 7 := fun k hk => by simp [w7]; omega
  have hx : W32 (w7 s 0) (dec32 (w7 s 0)) := ⟨lw 0 (by decide), ho.1, rfl⟩
  have hy : W32 (w7 s 1) (dec32 (w7 s 1)) := ⟨lw 1 (by decide), ho.2.1, rfl⟩
  have hz : W32 (w7 s 2) (dec32 (w7 s 2)) := ⟨lw 2 (by decide), ho.2.2, rfl⟩
  refine call_same (lw 2 (by decide)) (fun e => ?_) fun e => ?_
  · refine ⟨fun _ => hA ((rep_jback good hr).1 ?_), fun k => absurd k (by decide)⟩
    show dec32 (w7 s 2) = 0
    rw [e]
    exact dO
  · have hz0 : dec32 (w7 s 2) ≠ 0 := fun k => e (dec32_inj ho.2.2 okO (lw 2 (by decide)) (k.trans dO.symm))
    exact ⟨fun k => absurd rfl k, fun _ => invW hz fun b hb => mulW hb hb fun c hc => mulW hx hc fun x hx' => mulW hc hb fun d hd => mulW hy hd fun y hy' => hQ x y _ _ hx' hy' ((rep_jback good hr).2 hz0)⟩
theorem fitsC_introM : ∀ (ks : List IntKind) (xs : List Int) {p : Prop}, p → fitsC ks xs p
  | [], _, _, h => h
  | _ :: _, [], _, h => h
  | _ :: ks, _ :: xs, _, h => fun _ _ => fitsC_introM ks xs h
theorem s0_ok : okJ s0 0 ∧ repJ s0 0 none := ⟨⟨w32_1.ok, w32_1.ok, okO⟩, dO⟩
theorem stop_of {id : Nat} {q : Pt p → Prop} {l : List Int} (e : relsM id = relMStart q) (hl : l.length = 44) (hm : mOk l) (h : q (mTot l)) : stop4 id l := by
  have h1 : stop1 id l := by
    refine callM_of ?_ fun _ _ k => ?_
    · rw [e]
      show mOk ((l ++ s0).take 44) ∧ q (mTot ((l ++ s0).take 44)) ∧ okJ ((l ++ s0).drop 44) 0 ∧ repJ ((l ++ s0).drop 44) 0 none
      rw [take_app hl, drop_app hl]
      exact ⟨hm, h, s0_ok⟩
    · rw [e] at k
      exact k
  exact ⟨h1, h1, h1, h1⟩
theorem rest_of {A : Prop} {Q : List Int → Prop} {q : Pt p → Prop} {l : List Int} (hl : l.length = 68) (h : (relMStart q).pre l) (hA : mTot (l.take 44) = none → A) (hQ : ∀ x y x' y', W32 x x' → W32 y y' → mTot (l.take 44) = some (x', y') → Q (x ++ y)) : bytesVC (l.take 44) (backVC A Q) 28 0 (l.drop 44) := by
  obtain ⟨hm, _, ho, hr⟩ := h
  refine bytes_of (by simp; omega) hm (fun s' ls' ho' hr' => back_of (by omega) ho' hr' hA hQ) 28 0 (l.drop 44) rfl (by simp; omega) ho ?_
  show repJ (l.drop 44) 0 (nmul iv (mP (l.take 44)) (valB []).toNat)
  exact hr
theorem noStratM : ∀ (c : Code) (st : St) (cs : LoopS), (fun (_ : Code) (_ : St) => (none : Option LoopS)) c st = some cs → CutOk relsM cs.sel.length cs.n cs.id := fun c st cs h => by cases h
theorem body31_eq : Try.f31.body = some body31 := by kernel_rfl
theorem mFin_seg : RestOk Try.prog relsM Try.f31 canMultFin (csM 148) (restC 3 body31) := restC_of hX2 hm2 (tab := tabMu) tabM_J 200 mStrat_ok (by
  rw [fin2_cond]
  refine alln_len _ fun l hl hp => rest_of (q := fun S => S ≠ none) hl hp (fun k => hp.2.1 k) fun x y x' y' hx hy e => ?_
  show ok32 (w7 (x ++ y) 0) ∧ ok32 (w7 (x ++ y) 1) ∧ mTot (l.take 44) = some (dec32 (w7 (x ++ y) 0), dec32 (w7 (x ++ y) 1))
  have e0 : w7 (x ++ y) 0 = x := take_app hx.len
  have e1 : w7 (x ++ y) 1 = y := by
    simp only [w7]
    rw [drop_app (n := 7 * 1) hx.len, List.take_of_length_le (by rw [hy.len]; exact Nat.le_refl _)]
  rw [e0, e1, hx.dec, hy.dec]
  exact ⟨hx.ok, hy.ok, e⟩)
theorem mFar_seg : RestOk Try.prog relsM Try.f31 canMultFar (csM 149) (restC 3 body31) := restC_of hX2 hm2 (tab := tabMu) tabM_J 200 mStrat_ok (by
  rw [far2_cond]
  exact alln_len _ fun l hl hp => rest_of (q := fun S => S = none) hl hp (fun _ => trivial) fun x y x' y' hx hy e => by
    have h0 : mTot (l.take 44) = none := hp.2.1
    rw [h0] at e
    cases e)
theorem multFin_con : ConOk Try.prog relsM 31 canMultFin.con := con_of_can (can_of_condS hX2 hm2 (tab := tabMu) tabM_J (strat := fun _ _ => none) (cs := csM 148) (k := 3) 9 Try.func31 body31_eq (by decide) noStratM mFin_seg (by
  rw [fin1_cond]
  exact alln_len _ fun l hl => fitsC_introM _ _ fun hp => stop_of (q := fun S => S ≠ none) rfl hl hp.1 hp.2))
theorem multFar_con : ConOk Try.prog relsM 31 canMultFar.con := con_of_can (can_of_condS hX2 hm2 (tab := tabMu) tabM_J (strat := fun _ _ => none) (cs := csM 149) (k := 3) 9 Try.func31 body31_eq (by decide) noStratM mFar_seg (by
  rw [far1_cond]
  exact alln_len _ fun l hl => fitsC_introM _ _ fun hp => stop_of (q := fun S => S = none) rfl hl hp.1 hp.2))
def tabMult : List (FuncId × Con) := [(31, canMultFar.askc 146), (31, canMultFar.con), (31, canMultFin.con)]
theorem tabMult_ok : ∀ f con, (f, con) ∈ tabMult → ConOk Try.prog relsM f con := tabCons (ask_ok (askB fun i => mTot i = none)) (tabCons multFar_con (tabCons multFin_con (fun f con h => by cases h)))
end Go.Sx
