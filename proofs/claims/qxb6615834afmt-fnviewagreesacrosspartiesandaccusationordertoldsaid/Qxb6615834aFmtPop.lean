/-
  Plain facts: the number of bits set in a word of 64, as math/bits reckons it; and counts over a set.
-/
import Derived.Test.Qxb6615834aFmtBits
namespace Go.Proofs.Qxb6615834aFmt

/-- The sum of x's N lowest fields of w bits each. -/
def sumF (w : Nat) : Nat → Nat → Nat
  | 0, _ => 0
  | N + 1, x => x % 2 ^ w + sumF w N (x / 2 ^ w)

/-- N times: a field of w ones, a field of w noughts. -/
def mask (w : Nat) : Nat → Nat
  | 0 => 0
  | N + 1 => 2 ^ (2 * w) * mask w N + (2 ^ w - 1)

theorem and_split {i a b c d : Nat} (hb : b < 2 ^ i) (hd : d < 2 ^ i) : (2 ^ i * a + b) &&& (2 ^ i * c + d) = 2 ^ i * (a &&& c) + (b &&& d) := by
  refine Nat.eq_of_testBit_eq fun j => ?_
  have hbd : b &&& d < 2 ^ i := Nat.and_lt_two_pow b hd
  rw [Nat.testBit_and, Nat.testBit_two_pow_mul_add _ hb, Nat.testBit_two_pow_mul_add _ hd, Nat.testBit_two_pow_mul_add _ hbd]
  split <;> simp

theorem and_mask (w N x : Nat) : x &&& mask w (N + 1) = 2 ^ (2 * w) * (x / 2 ^ (2 * w) &&& mask w N) + x % 2 ^ w := by
  have hw : 2 ^ w ≤ 2 ^ (2 * w) := Nat.pow_le_pow_right (by omega) (by omega)
  have hp : 0 < 2 ^ w := Nat.two_pow_pos w
  have h1 : x % 2 ^ (2 * w) < 2 ^ (2 * w) := Nat.mod_lt _ (Nat.two_pow_pos _)
  have h2 : 2 ^ w - 1 < 2 ^ (2 * w) := by omega
  have h3 := and_split (a := x / 2 ^ (2 * w)) (c := mask w N) h1 h2
  rw [Nat.div_add_mod] at h3
  rw [mask, h3, Nat.and_two_pow_sub_one_eq_mod]
  congr 1
  have : 2 ^ (2 * w) = 2 ^ w * 2 ^ w := by rw [← Nat.pow_add]; congr 1; omega
  rw [this, Nat.mod_mul_right_mod]

def step (w N x : Nat) : Nat := (x / 2 ^ w &&& mask w N) + (x &&& mask w N)

theorem step_succ (w N x : Nat) : step w (N + 1) x = 2 ^ (2 * w) * step w N (x / 2 ^ (2 * w)) + (x / 2 ^ w % 2 ^ w + x % 2 ^ w) := by
  unfold step
  rw [and_mask, and_mask, Nat.div_div_eq_div_mul, Nat.mul_comm (2 ^ w), ← Nat.div_div_eq_div_mul, Nat.mul_add]
  omega

theorem two_small (w : Nat) (hw : 0 < w) (x y : Nat) : x % 2 ^ w + y % 2 ^ w < 2 ^ (2 * w) := by
  have h1 : x % 2 ^ w < 2 ^ w := Nat.mod_lt _ (Nat.two_pow_pos _)
  have h2 : y % 2 ^ w < 2 ^ w := Nat.mod_lt _ (Nat.two_pow_pos _)
  have h3 : 2 ^ (w + 1) ≤ 2 ^ (2 * w) := Nat.pow_le_pow_right (by omega) (by omega)
  rw [Nat.pow_succ] at h3
  omega

theorem sumF_step (w : Nat) (hw : 0 < w) : ∀ N x, sumF (2 * w) N (step w N x) = sumF w (2 * N) x
  | 0, x => rfl
  | N + 1, x => by
    have hs := two_small w hw (x / 2 ^ w) x
    have ih := sumF_step w hw N (x / 2 ^ (2 * w))
    have e2 : 2 * (N + 1) = 2 * N + 1 + 1 := by omega
    have e3 : x / 2 ^ w / 2 ^ w = x / 2 ^ (2 * w) := by
      rw [Nat.div_div_eq_div_mul, ← Nat.pow_add]
      congr 2
      omega
    rw [sumF, step_succ, Nat.mul_add_mod, Nat.mod_eq_of_lt hs, Nat.mul_add_div (Nat.two_pow_pos _), Nat.div_eq_of_lt hs, Nat.add_zero, ih, e2, sumF, sumF, e3]
    omega

/-- Every one of x's N lowest fields of w bits is at most b. -/
def allF (w b : Nat) : Nat → Nat → Prop
  | 0, _ => True
  | N + 1, x => x % 2 ^ w ≤ b ∧ allF w b N (x / 2 ^ w)

theorem allF_step (w b : Nat) (hw : 0 < w) : ∀ N x, allF w b (2 * N) x → allF (2 * w) (2 * b) N (step w N x)
  | 0, _, _ => trivial
  | N + 1, x, h => by
    have hs := two_small w hw (x / 2 ^ w) x
    have e2 : 2 * (N + 1) = 2 * N + 1 + 1 := by omega
    have e3 : x / 2 ^ w / 2 ^ w = x / 2 ^ (2 * w) := by
      rw [Nat.div_div_eq_div_mul, ← Nat.pow_add]
      congr 2
      omega
    rw [e2] at h
    obtain ⟨h1, h2, h3⟩ := h
    rw [e3] at h3
    rw [allF, step_succ, Nat.mul_add_mod, Nat.mod_eq_of_lt hs, Nat.mul_add_div (Nat.two_pow_pos _), Nat.div_eq_of_lt hs, Nat.add_zero]
    exact ⟨by omega, allF_step w b hw N _ h3⟩

theorem allF_bits : ∀ N x, allF 1 1 N x
  | 0, _ => trivial
  | N + 1, x => ⟨by have := Nat.mod_lt x (show 0 < 2 by omega); omega, allF_bits N _⟩

theorem carry {x : Nat} (h1 : x % 16 ≤ 4) (h2 : x / 16 % 16 ≤ 4) (h3 : x / 256 % 16 ≤ 4) : (x / 16 + x) / 256 = x / 256 / 16 + x / 256 := by
  obtain ⟨v, hv⟩ : ∃ v, x % 16 = v := ⟨_, rfl⟩
  obtain ⟨u, hu⟩ : ∃ u, x / 16 % 16 = u := ⟨_, rfl⟩
  obtain ⟨s, hs⟩ : ∃ s, x / 256 % 16 = s := ⟨_, rfl⟩
  obtain ⟨q, hq⟩ : ∃ q, x / 256 = q := ⟨_, rfl⟩
  obtain ⟨r, hr⟩ : ∃ r, q / 16 = r := ⟨_, rfl⟩
  have e0 : x / 16 = 16 * q + u := by
    have : x / 16 / 16 = q := by rw [Nat.div_div_eq_div_mul]; exact hq
    omega
  have e1 : x = 256 * q + 16 * u + v := by omega
  rw [hq] at hs h3
  have e2 : q = 16 * r + s := by omega
  have e3 : s ≤ 4 := by omega
  have e4 : v ≤ 4 := by omega
  have e5 : u ≤ 4 := by omega
  clear h1 h2 h3
  rw [e0, hq, hr, e1]
  omega

theorem nocarry {x : Nat} (h1 : x % 16 ≤ 4) (h2 : x / 16 % 16 ≤ 4) : (x / 16 + x) % 16 = x / 16 % 16 + x % 16 := by
  omega

theorem bytes_sum {c : Nat} (h : allF 8 8 8 c) (hlt : c < 2 ^ 64) :
    (c + c / 256 + (c + c / 256) / 65536 + (c + c / 256 + (c + c / 256) / 65536) / 4294967296) % 128 = sumF 8 8 c := by
  simp only [allF, sumF, Nat.reducePow] at h hlt ⊢
  obtain ⟨q1, h1⟩ : ∃ q, c / 256 = q := ⟨_, rfl⟩
  rw [h1] at h ⊢
  obtain ⟨q2, h2⟩ : ∃ q, q1 / 256 = q := ⟨_, rfl⟩
  rw [h2] at h ⊢
  obtain ⟨q3, h3⟩ : ∃ q, q2 / 256 = q := ⟨_, rfl⟩
  rw [h3] at h ⊢
  obtain ⟨q4, h4⟩ : ∃ q, q3 / 256 = q := ⟨_, rfl⟩
  rw [h4] at h ⊢
  obtain ⟨q5, h5⟩ : ∃ q, q4 / 256 = q := ⟨_, rfl⟩
  rw [h5] at h ⊢
  obtain ⟨q6, h6⟩ : ∃ q, q5 / 256 = q := ⟨_, rfl⟩
  rw [h6] at h ⊢
  obtain ⟨q7, h7⟩ : ∃ q, q6 / 256 = q := ⟨_, rfl⟩
  rw [h7] at h ⊢
  obtain ⟨b0, b1, b2, b3, b4, b5, b6, b7, _⟩ := h
  obtain ⟨c0, g0⟩ : ∃ q, c % 256 = q := ⟨_, rfl⟩
  obtain ⟨c1, g1⟩ : ∃ q, q1 % 256 = q := ⟨_, rfl⟩
  obtain ⟨c2, g2⟩ : ∃ q, q2 % 256 = q := ⟨_, rfl⟩
  obtain ⟨c3, g3⟩ : ∃ q, q3 % 256 = q := ⟨_, rfl⟩
  obtain ⟨c4, g4⟩ : ∃ q, q4 % 256 = q := ⟨_, rfl⟩
  obtain ⟨c5, g5⟩ : ∃ q, q5 % 256 = q := ⟨_, rfl⟩
  obtain ⟨c6, g6⟩ : ∃ q, q6 % 256 = q := ⟨_, rfl⟩
  have f0 : c = 256 * q1 + c0 := by omega
  have f1 : q1 = 256 * q2 + c1 := by omega
  have f2 : q2 = 256 * q3 + c2 := by omega
  have f3 : q3 = 256 * q4 + c3 := by omega
  have f4 : q4 = 256 * q5 + c4 := by omega
  have f5 : q5 = 256 * q6 + c5 := by omega
  have f6 : q6 = 256 * q7 + c6 := by omega
  have f7 : q7 < 256 := by omega
  rw [g0, g1, g2, g3, g4, g5, g6, Nat.mod_eq_of_lt f7]
  rw [g0] at b0
  rw [g1] at b1
  rw [g2] at b2
  rw [g3] at b3
  rw [g4] at b4
  rw [g5] at b5
  rw [g6] at b6
  rw [Nat.mod_eq_of_lt f7] at b7
  clear g0 g1 g2 g3 g4 g5 g6 h1 h2 h3 h4 h5 h6 h7 hlt
  have k1 : (c + q1) / 65536 = q2 + q3 := by omega
  rw [k1]
  have k2 : (c + q1 + (q2 + q3)) / 4294967296 = q4 + q5 + q6 + q7 := by omega
  rw [k2]
  omega

/-- The third step adds first and masks then: the same where no field runs over. -/
theorem step3 : ∀ N x, allF 4 4 (2 * N) x → x < 2 ^ (8 * N) → (x / 16 + x) &&& mask 4 N = step 4 N x
  | 0, x, _, _ => by simp [mask, step]
  | N + 1, x, h, hx => by
    have e2 : 2 * (N + 1) = 2 * N + 1 + 1 := by omega
    rw [e2] at h
    obtain ⟨h1, h2, h3⟩ := h
    have h3' : allF 4 4 (2 * N) (x / 256) := by rw [show (2 : Nat) ^ 4 = 16 from rfl, Nat.div_div_eq_div_mul] at h3; exact h3
    have hx' : x / 256 < 2 ^ (8 * N) := by
      rw [Nat.div_lt_iff_lt_mul (by omega), show (256 : Nat) = 2 ^ 8 from rfl, ← Nat.pow_add]
      exact hx
    have ih := step3 N (x / 256) h3' hx'
    rw [step_succ, and_mask]
    simp only [Nat.reducePow, Nat.reduceMul] at h1 h2 ih ⊢
    have hn : x / 256 % 16 ≤ 4 ∨ N = 0 := by
      cases N with
      | zero => exact Or.inr rfl
      | succ N =>
        refine Or.inl ?_
        have e4 : 2 * (N + 1) = 2 * N + 1 + 1 := by omega
        rw [e4] at h3'
        exact h3'.1
    have hn' : x / 256 % 16 ≤ 4 := by
      rcases hn with h | h
      · exact h
      · subst h
        simp at hx
        omega
    rw [carry h1 h2 hn', nocarry h1 h2, ih]

/-- OnesCount64, as Go's text reckons it, on numbers. -/
def ones (x : Nat) : Nat :=
  let a := (x / 2 &&& 6148914691236517205) + (x &&& 6148914691236517205)
  let b := (a / 4 &&& 3689348814741910323) + (a &&& 3689348814741910323)
  let c := (b / 16 + b) &&& 1085102592571150095
  let d := c + c / 256
  let e := d + d / 65536
  let f := e + e / 4294967296
  f % 128

theorem ones_sum (x : Nat) : ones x = sumF 1 64 x := by
  have m0 : mask 1 32 = 6148914691236517205 := by decide
  have m1 : mask 2 16 = 3689348814741910323 := by decide
  have m2 : mask 4 8 = 1085102592571150095 := by decide
  have s1 := sumF_step 1 (by omega) 32 x
  have a1 := allF_step 1 1 (by omega) 32 x (allF_bits _ _)
  generalize ha : step 1 32 x = a at s1 a1
  have s2 := sumF_step 2 (by omega) 16 a
  have a2 := allF_step 2 2 (by omega) 16 a a1
  generalize hb : step 2 16 a = b at s2 a2
  have hblt : b < 2 ^ 64 := by
    rw [← hb]
    have h1 : (a / 2 ^ 2 &&& mask 2 16) ≤ mask 2 16 := Nat.and_le_right
    have h2 : (a &&& mask 2 16) ≤ mask 2 16 := Nat.and_le_right
    rw [m1] at h1 h2
    unfold step
    rw [m1]
    omega
  have s3 := sumF_step 4 (by omega) 8 b
  have a3 := allF_step 4 4 (by omega) 8 b a2
  have t3 := step3 8 b a2 hblt
  generalize hc : step 4 8 b = c at s3 a3 t3
  have hclt : c < 2 ^ 64 := by
    rw [← t3]
    have h1 : ((b / 16 + b) &&& mask 4 8) ≤ mask 4 8 := Nat.and_le_right
    rw [m2] at h1 ⊢
    omega
  have e1 : (x / 2 &&& 6148914691236517205) + (x &&& 6148914691236517205) = a := by rw [← ha, step, m0]
  have e2 : (a / 4 &&& 3689348814741910323) + (a &&& 3689348814741910323) = b := by rw [← hb, step, m1]
  have e3 : (b / 16 + b) &&& 1085102592571150095 = c := by rw [← m2, t3]
  unfold ones
  simp only [e1, e2, e3]
  rw [← s1, ← s2, ← s3]
  exact bytes_sum a3 hclt

/-! ### Counts over a set -/

def cnt (S : Nat → Bool) : Nat → Nat
  | 0 => 0
  | k + 1 => cnt S k + (if S k then 1 else 0)

theorem cnt_add (S : Nat → Bool) (k : Nat) : ∀ j, cnt S (k + j) = cnt S k + cnt (fun x => S (k + x)) j
  | 0 => rfl
  | j + 1 => by
    rw [← Nat.add_assoc, cnt, cnt_add S k j, cnt]
    omega

theorem cnt_congr {S T : Nat → Bool} : ∀ k, (∀ j, j < k → S j = T j) → cnt S k = cnt T k
  | 0, _ => rfl
  | k + 1, h => by
    rw [cnt, cnt, cnt_congr k (fun j hj => h j (by omega)), h k (by omega)]

theorem cnt_le (S : Nat → Bool) : ∀ k, cnt S k ≤ k
  | 0 => Nat.le_refl _
  | k + 1 => by
    have := cnt_le S k
    rw [cnt]
    split <;> omega

theorem cnt_front (S : Nat → Bool) (k : Nat) : cnt S (k + 1) = (if S 0 then 1 else 0) + cnt (fun x => S (x + 1)) k := by
  have h := cnt_add S 1 k
  rw [Nat.add_comm k 1, h]
  have e : (fun x => S (1 + x)) = fun x => S (x + 1) := by
    funext x
    rw [Nat.add_comm]
  rw [e]
  simp [cnt]

theorem sumF_bits : ∀ N x, sumF 1 N x = cnt (fun j => x.testBit j) N
  | 0, _ => rfl
  | N + 1, x => by
    rw [cnt_front, sumF, sumF_bits N, Nat.pow_one]
    congr 1
    · rw [Nat.testBit_zero]
      have := Nat.mod_lt x (show 0 < 2 by omega)
      by_cases h : x % 2 = 1
      · simp [h]
      · have : x % 2 = 0 := by omega
        simp [this]
    · exact cnt_congr N fun j _ => by rw [Nat.testBit_succ]

theorem ones_wd (S : Nat → Bool) (i : Nat) : ones (wd S i) = cnt (fun j => S (64 * i + j)) 64 := by
  rw [ones_sum, sumF_bits]
  exact cnt_congr 64 fun j hj => by rw [wd_testBit]; simp [hj]

theorem cnt_words (S : Nat → Bool) (i : Nat) : cnt S (64 * (i + 1)) = cnt S (64 * i) + ones (wd S i) := by
  rw [ones_wd, ← cnt_add]
  rfl

theorem cnt_beyond {S : Nat → Bool} {n : Nat} (h : ∀ x, n ≤ x → S x = false) : ∀ k, cnt S (n + k) = cnt S n
  | 0 => rfl
  | k + 1 => by
    rw [← Nat.add_assoc, cnt, cnt_beyond h k, h _ (by omega)]
    simp

end Go.Proofs.Qxb6615834aFmt
