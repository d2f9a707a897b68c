/- The reference's numbers: from bytes, to bytes, carrying. -/
import Derived.Test.YtkjfcpeabdimmaaR2Cmp
set_option linter.unusedVariables false
set_option linter.unusedSimpArgs false
set_option linter.constructorNameAsVariable false
set_option maxRecDepth 100000
set_option maxHeartbeats 4000000
namespace Go.Sx
open Go.Proofs Go.FP Go.EC

theorem wrap_byte_i {x : Int} (h0 : 0 ≤ x) (h1 : x ≤ 255) : IntKind.i64.wrap x = x := wrap_of_fits (k := .i64) ⟨by simp only [kmin]; omega, by simp only [kmax]; omega⟩
theorem shl_i24 {x : Int} (h0 : 0 ≤ x) (h1 : x ≤ 255) : binFn .shl .i64 x 24 = 16777216 * x := by
  show IntKind.wrap .i64 (x * 2 ^ 24) = _
  rw [wrap_of_fits (k := .i64) ⟨by simp only [kmin]; omega, by simp only [kmax]; omega⟩]
  omega
theorem shl_i16 {x : Int} (h0 : 0 ≤ x) (h1 : x ≤ 255) : binFn .shl .i64 x 16 = 65536 * x := by
  show IntKind.wrap .i64 (x * 2 ^ 16) = _
  rw [wrap_of_fits (k := .i64) ⟨by simp only [kmin]; omega, by simp only [kmax]; omega⟩]
  omega
theorem shl_i8 {x : Int} (h0 : 0 ≤ x) (h1 : x ≤ 255) : binFn .shl .i64 x 8 = 256 * x := by
  show IntKind.wrap .i64 (x * 2 ^ 8) = _
  rw [wrap_of_fits (k := .i64) ⟨by simp only [kmin]; omega, by simp only [kmax]; omega⟩]
  omega
theorem shl_i0 {x : Int} (h0 : 0 ≤ x) (h1 : x ≤ 255) : binFn .shl .i64 x 0 = x := by
  show IntKind.wrap .i64 (x * 2 ^ 0) = _
  rw [wrap_of_fits (k := .i64) ⟨by simp only [kmin]; omega, by simp only [kmax]; omega⟩]
  omega

/-- A word out of four bytes, the highest first. -/
def wordVC (K : Int → Prop) (x0 x1 x2 x3 : Int) : Prop :=
  ∀ a0 : Int, a0 = IntKind.i64.wrap x0 → ∀ b0 : Int, b0 = binFn .shl .i64 a0 24 → ∀ c0 : Int, c0 = binFn .add .i64 0 b0 →
  ∀ a1 : Int, a1 = IntKind.i64.wrap x1 → ∀ b1 : Int, b1 = binFn .shl .i64 a1 16 → ∀ c1 : Int, c1 = binFn .add .i64 c0 b1 →
  ∀ a2 : Int, a2 = IntKind.i64.wrap x2 → ∀ b2 : Int, b2 = binFn .shl .i64 a2 8 → ∀ c2 : Int, c2 = binFn .add .i64 c1 b2 →
  ∀ a3 : Int, a3 = IntKind.i64.wrap x3 → ∀ b3 : Int, b3 = binFn .shl .i64 a3 0 → ∀ c3 : Int, c3 = binFn .add .i64 c2 b3 → K c3
theorem wordVC_of {K : Int → Prop} {x0 x1 x2 x3 : Int} (h0 : 0 ≤ x0 ∧ x0 ≤ 255) (h1 : 0 ≤ x1 ∧ x1 ≤ 255) (h2 : 0 ≤ x2 ∧ x2 ≤ 255) (h3 : 0 ≤ x3 ∧ x3 ≤ 255)
    (hK : K (16777216 * x0 + 65536 * x1 + 256 * x2 + x3)) : wordVC K x0 x1 x2 x3 := by
  intro a0 e0 b0 f0 c0 g0 a1 e1 b1 f1 c1 g1 a2 e2 b2 f2 c2 g2 a3 e3 b3 f3 c3 g3
  rw [wrap_byte_i h0.1 h0.2] at e0
  rw [wrap_byte_i h1.1 h1.2] at e1
  rw [wrap_byte_i h2.1 h2.2] at e2
  rw [wrap_byte_i h3.1 h3.2] at e3
  subst e0 e1 e2 e3
  rw [shl_i24 h0.1 h0.2] at f0
  rw [shl_i16 h1.1 h1.2] at f1
  rw [shl_i8 h2.1 h2.2] at f2
  rw [shl_i0 h3.1 h3.2] at f3
  rw [add_i64 _ _ (by omega) (by omega)] at g0
  rw [add_i64 _ _ (by omega) (by omega)] at g1
  rw [add_i64 _ _ (by omega) (by omega)] at g2
  rw [add_i64 _ _ (by omega) (by omega)] at g3
  have : c3 = 16777216 * a0 + 65536 * a1 + 256 * a2 + a3 := by omega
  rw [this]
  exact hK

/-- Words out of bytes, four by four. -/
def wordsVC (Q : List Int → Prop) : Nat → List Int → List Int → Prop
  | n + 1, x0 :: x1 :: x2 :: x3 :: l, acc => wordVC (fun w => wordsVC Q n l (w :: acc)) x0 x1 x2 x3
  | _, _, acc => Q acc
theorem wordsVC_of {Q : List Int → Prop} : ∀ (n : Nat) (l acc : List Int), (∀ x ∈ l, 0 ≤ x ∧ x ≤ 255) → l.length = 4 * n → r32 acc →
    (∀ o : List Int, o.length = n + acc.length → r32 o → val32 o = hv 256 (val32 acc) l → Q o) → wordsVC Q n l acc
  | 0, [], acc, _, _, ha, hQ => hQ acc (by simp) ha rfl
  | n + 1, x0 :: x1 :: x2 :: x3 :: l, acc, h, hl, ha, hQ => by
    have h0 := h x0 (by simp)
    have h1 := h x1 (by simp)
    have h2 := h x2 (by simp)
    have h3 := h x3 (by simp)
    refine wordVC_of h0 h1 h2 h3 (wordsVC_of n l _ (fun x hx => h x (by simp [hx])) (by simp at hl; omega) ⟨by omega, by omega, ha⟩ fun o ho hr hv' => hQ o (by simp at ho ⊢; omega) hr ?_)
    rw [hv']
    simp only [hv]
    congr 1
    show 16777216 * x0 + 65536 * x1 + 256 * x2 + x3 + 4294967296 * valL 4294967296 acc = _
    simp only [val32]
    generalize valL 4294967296 acc = v
    omega
theorem number_cond : Can.cond canNumber Try.prog X2 [] relsF 18 60 = inp 28 0 255 (fun l => rngs 0 255 l ((relsF 20).pre l → wordsVC (fun o => (relsF 20).post l o) 7 l [])) := by kernel_rfl
theorem number_con : ConOk Try.prog relsF 18 canNumber.con := can_of_cond hX2 hm2 (tab := []) tab_nil 60 (by decide) (by
  rw [number_cond]
  refine inp_of _ _ _ _ fun l hl => rngs_of _ _ fun h _ => wordsVC_of 7 l [] h (by omega) trivial fun o ho hr hv' => ⟨hr, ?_⟩
  rw [hv', valB_hv]
  rfl)

/-- The bytes of a word, the highest first. -/
def byVC (Q : List Int → Prop) : List Int → List Int → Prop
  | x :: l, acc => ∀ a0 : Int, a0 = binFn .shr .i64 x 24 → ∀ b0 : Int, b0 = IntKind.u8.wrap a0 → ∀ a1 : Int, a1 = binFn .shr .i64 x 16 → ∀ b1 : Int, b1 = IntKind.u8.wrap a1 →
      ∀ a2 : Int, a2 = binFn .shr .i64 x 8 → ∀ b2 : Int, b2 = IntKind.u8.wrap a2 → ∀ a3 : Int, a3 = binFn .shr .i64 x 0 → ∀ b3 : Int, b3 = IntKind.u8.wrap a3 → byVC Q l (acc ++ [b0, b1, b2, b3])
  | [], acc => Q acc
theorem hv_append (b : Int) : ∀ (l m : List Int) (a : Int), hv b a (l ++ m) = hv b (hv b a l) m
  | [], _, _ => rfl
  | x :: l, m, a => hv_append b l m (a * b + x)
theorem rng_append {b : Int} : ∀ {l m : List Int}, rng b l → rng b m → rng b (l ++ m)
  | [], _, _, h => h
  | _ :: _, _, h, k => ⟨h.1, h.2.1, rng_append h.2.2 k⟩
theorem byVC_of {Q : List Int → Prop} : ∀ (l acc : List Int), r32 l → rng 256 acc →
    (∀ o : List Int, o.length = acc.length + 4 * l.length → rng 256 o → hv 256 0 o = hv 4294967296 (hv 256 0 acc) l → Q o) → byVC Q l acc
  | [], acc, _, ha, hQ => hQ acc (by simp) ha rfl
  | x :: l, acc, hl, ha, hQ => by
    intro a0 e0 b0 f0 a1 e1 b1 f1 a2 e2 b2 f2 a3 e3 b3 f3
    have hx0 := hl.1
    have hx1 := hl.2.1
    rw [wrap_u8] at f0 f1 f2 f3
    have e0 : a0 = x / 16777216 := e0.trans (fdiv_pow x 24)
    have e1 : a1 = x / 65536 := e1.trans (fdiv_pow x 16)
    have e2 : a2 = x / 256 := e2.trans (fdiv_pow x 8)
    have e3 : a3 = x / 1 := e3.trans (fdiv_pow x 0)
    have hb : 0 ≤ b0 ∧ b0 < 256 ∧ 0 ≤ b1 ∧ b1 < 256 ∧ 0 ≤ b2 ∧ b2 < 256 ∧ 0 ≤ b3 ∧ b3 < 256 ∧ x = 16777216 * b0 + 65536 * b1 + 256 * b2 + b3 := by omega
    refine byVC_of l _ hl.2.2 (rng_append ha ⟨hb.1, hb.2.1, hb.2.2.1, hb.2.2.2.1, hb.2.2.2.2.1, hb.2.2.2.2.2.1, hb.2.2.2.2.2.2.1, hb.2.2.2.2.2.2.2.1, trivial⟩) fun o ho hr hv' => hQ o (by simp at ho ⊢; omega) hr ?_
    rw [hv', hv_append]
    simp only [hv]
    congr 1
    have := hb.2.2.2.2.2.2.2.2
    generalize hv 256 0 acc = v
    omega
theorem bytes_cond : Can.cond canBytes Try.prog X2 [] relsF 23 60 = inp 7 0 0 (fun l => rngs (-9223372036854775808) 9223372036854775807 l ((relsF 28).pre l → byVC (fun o => (relsF 28).post l o) l.reverse [])) := by kernel_rfl
theorem bytes_con : ConOk Try.prog relsF 23 canBytes.con := can_of_cond hX2 hm2 (tab := []) tab_nil 60 (by decide) (by
  rw [bytes_cond]
  refine inp_of _ _ _ _ fun l hl => rngs_of _ _ fun h hp => byVC_of l.reverse [] (rng_rev hp) trivial fun o ho hr hv' => ⟨hr, ?_⟩
  rw [valB_hv, val32_hv, hv']
  rfl)

/-- Words put within 32 bits. -/
def carVC (Q : List Int → Prop) : Int → List Int → List Int → Prop
  | c, x :: l, acc => ∀ t : Int, t = binFn .add .i64 c x → ∀ w : Int, w = binFn .and .i64 t 4294967295 → ∀ d : Int, d = binFn .shr .i64 t 32 → carVC Q d l (acc ++ [w])
  | c, [], acc => Q (acc ++ [c])
theorem valL_app (b : Int) : ∀ (l m : List Int), valL b (l ++ m) = valL b l + b ^ l.length * valL b m
  | [], m => by simp [valL]
  | x :: l, m => by
    simp only [List.cons_append, valL, valL_app b l m, List.length_cons, Int.pow_succ]
    rw [Int.mul_add, ← Int.mul_assoc, Int.mul_comm (b ^ l.length) b]
    omega
theorem carVC_of {Q : List Int → Prop} : ∀ (l acc : List Int) (c : Int), bnd 1099511627776 l → -512 ≤ c → c ≤ 512 → r32 acc →
    (∀ (o : List Int) (d : Int), o.length = acc.length + l.length → r32 o → valL 4294967296 (o ++ [d]) = valL 4294967296 (acc ++ [c]) + 4294967296 ^ acc.length * valL 4294967296 l → Q (o ++ [d])) → carVC Q c l acc
  | [], acc, c, _, _, _, ha, hQ => hQ acc c (by simp) ha (by simp [valL])
  | x :: l, acc, c, hl, hc0, hc1, ha, hQ => by
    intro t et w ew d ed
    have h0 := hl.1
    have h1 := hl.2.1
    rw [add_i64 _ _ (by omega) (by omega)] at et
    rw [and_i64_32] at ew
    rw [shr_i64_32] at ed
    refine carVC_of l _ d hl.2.2 (by omega) (by omega) (rng_append ha ⟨by omega, by omega, trivial⟩) fun o d' ho hr hv' => hQ o d' (by simp at ho ⊢; omega) hr ?_
    rw [hv', valL_app, valL_app, valL_app]
    simp only [valL, List.length_append, List.length_cons, List.length_nil, Int.mul_zero, Int.add_zero]
    have e : c + x = w + 4294967296 * d := by omega
    rw [Int.pow_add]
    generalize (4294967296 : Int) ^ acc.length = B
    generalize valL 4294967296 l = v
    generalize valL 4294967296 acc = a
    have e2 : B * (c + x) = B * (w + 4294967296 * d) := by rw [e]
    simp only [Nat.zero_add, Int.pow_succ, Int.pow_zero, Int.one_mul]
    grind
theorem carried_cond : Can.cond canCarried Try.prog X2 [] relsF 66 60 = inp 7 0 0 (fun l => rngs (-9223372036854775808) 9223372036854775807 l ((relsF 27).pre l → carVC (fun o => (relsF 27).post l o) 0 l [])) := by kernel_rfl
theorem carried_con : ConOk Try.prog relsF 66 canCarried.con := can_of_cond hX2 hm2 (tab := []) tab_nil 60 (by decide) (by
  rw [carried_cond]
  refine inp_of _ _ _ _ fun l hl => rngs_of _ _ fun h hp => carVC_of l [] 0 hp (by decide) (by decide) trivial fun o d ho hr hv' => ⟨?_, ?_⟩
  · have : (o ++ [d]).take 7 = o := by
      rw [List.take_append_of_le_length (by simp at ho; omega), List.take_of_length_le (by simp at ho; omega)]
    rw [this]
    exact hr
  · unfold val32
    rw [hv']
    simp [valL])
end Go.Sx
