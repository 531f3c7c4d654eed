/-
  Plain facts on words of bits: sets of numbers packed into words of 64, and the ways the program reads them.
-/
import Derived.Laws.BitsAllLaws
namespace Go.Proofs.Qxb6615834aFmt

/-! ### A word of k bits, bit j set just where S (b + j) -/

def pack (S : Nat → Bool) (b : Nat) : Nat → Nat
  | 0 => 0
  | k + 1 => pack S b k + (if S (b + k) then 2 ^ k else 0)

theorem pack_lt (S : Nat → Bool) (b : Nat) : ∀ k, pack S b k < 2 ^ k
  | 0 => by simp [pack]
  | k + 1 => by
    have := pack_lt S b k
    rw [pack, Nat.pow_succ]
    split <;> omega

theorem pack_testBit (S : Nat → Bool) (b : Nat) : ∀ k j, (pack S b k).testBit j = (decide (j < k) && S (b + j))
  | 0, j => by simp [pack]
  | k + 1, j => by
    have hlt := pack_lt S b k
    have ih := pack_testBit S b k j
    rw [pack]
    by_cases hs : S (b + k) = true
    · rw [if_pos hs, Nat.add_comm]
      have h2 := Nat.testBit_two_pow_mul_add 1 hlt j
      rw [Nat.mul_one] at h2
      rw [h2]
      by_cases hjk : j < k
      · rw [if_pos hjk, ih]
        simp [hjk, Nat.lt_succ_of_lt hjk]
      · rw [if_neg hjk]
        by_cases e : j = k
        · subst e
          simp [hs]
        · have h3 : ¬ j < k + 1 := by omega
          have h4 : j - k = (j - k - 1) + 1 := by omega
          rw [h4, Nat.testBit_succ]
          simp [h3]
    · rw [if_neg hs, Nat.add_zero, ih]
      by_cases hjk : j < k
      · simp [hjk, Nat.lt_succ_of_lt hjk]
      · by_cases e : j = k
        · subst e
          simp at hs
          simp [hs]
        · have h3 : ¬ j < k + 1 := by omega
          simp [hjk, h3]

theorem eq_pack {S : Nat → Bool} {b k x : Nat} (h : ∀ j, x.testBit j = (decide (j < k) && S (b + j))) : x = pack S b k :=
  Nat.eq_of_testBit_eq fun j => by rw [h, pack_testBit]

theorem pack_congr {S T : Nat → Bool} {b k : Nat} (h : ∀ j, j < k → S (b + j) = T (b + j)) : pack S b k = pack T b k :=
  eq_pack fun j => by
    rw [pack_testBit]
    by_cases hj : j < k
    · simp [hj, h j hj]
    · simp [hj]

/-- The i-th word of the set S. -/
def wd (S : Nat → Bool) (i : Nat) : Nat := pack S (64 * i) 64

theorem wd_lt (S : Nat → Bool) (i : Nat) : wd S i < 18446744073709551616 := pack_lt S (64 * i) 64

theorem wd_testBit (S : Nat → Bool) (i j : Nat) : (wd S i).testBit j = (decide (j < 64) && S (64 * i + j)) := pack_testBit S _ _ _

theorem wd_congr {S T : Nat → Bool} {i : Nat} (h : ∀ j, j < 64 → S (64 * i + j) = T (64 * i + j)) : wd S i = wd T i := pack_congr h

theorem wd_empty (i : Nat) : wd (fun _ => false) i = 0 := by
  refine Nat.eq_of_testBit_eq fun j => ?_
  rw [wd_testBit]
  simp

/-- S with x put to v. -/
def putB (S : Nat → Bool) (x : Nat) (v : Bool) : Nat → Bool := fun y => if y = x then v else S y

theorem wd_add (S : Nat → Bool) (i j : Nat) (hj : j < 64) : wd S i ||| 2 ^ j = wd (putB S (64 * i + j) true) i := by
  refine Nat.eq_of_testBit_eq fun k => ?_
  rw [Nat.testBit_or, wd_testBit, wd_testBit, Nat.testBit_two_pow, putB]
  by_cases e : j = k
  · subst e
    simp [hj]
  · have e' : ¬ 64 * i + k = 64 * i + j := by omega
    rw [if_neg e']
    simp [e]

theorem wd_remove (S : Nat → Bool) (i j : Nat) (hj : j < 64) : wd S i &&& (18446744073709551615 - 2 ^ j) = wd (putB S (64 * i + j) false) i := by
  refine Nat.eq_of_testBit_eq fun k => ?_
  have hp : 2 ^ j < 2 ^ 64 := Nat.pow_lt_pow_right (by omega) hj
  have e1 : 18446744073709551615 - 2 ^ j = 2 ^ 64 - (2 ^ j + 1) := by
    rw [show (18446744073709551615 : Nat) = 2 ^ 64 - 1 from rfl]; omega
  rw [Nat.testBit_and, wd_testBit, wd_testBit, e1, Nat.testBit_two_pow_sub_succ hp, Nat.testBit_two_pow, putB]
  by_cases e : j = k
  · subst e
    simp
  · have e' : ¬ 64 * i + k = 64 * i + j := by omega
    rw [if_neg e']
    by_cases hk : k < 64 <;> simp [e, hk]

theorem wd_other (S : Nat → Bool) (x i : Nat) (v : Bool) (h : x / 64 ≠ i) : wd (putB S x v) i = wd S i :=
  wd_congr fun j hj => by
    have : ¬ 64 * i + j = x := by omega
    simp [putB, this]

theorem wd_and (S T : Nat → Bool) (i : Nat) : wd S i &&& wd T i = wd (fun x => S x && T x) i := by
  refine Nat.eq_of_testBit_eq fun k => ?_
  rw [Nat.testBit_and, wd_testBit, wd_testBit, wd_testBit]
  by_cases hk : k < 64 <;> simp [hk]

theorem wd_has (S : Nat → Bool) (i j : Nat) (hj : j < 64) : wd S i &&& 2 ^ j = if S (64 * i + j) then 2 ^ j else 0 := by
  refine Nat.eq_of_testBit_eq fun k => ?_
  rw [Nat.testBit_and, wd_testBit, Nat.testBit_two_pow]
  by_cases e : j = k
  · subst e
    by_cases hs : S (64 * i + j) = true
    · simp [hs, hj]
    · simp [hs]
  · by_cases hs : S (64 * i + j) = true
    · simp [hs, e]
    · simp [hs, e]

/-! ### The lowest bit -/

theorem low_form {x k : Nat} (hk : x.testBit k = true) (hlow : ∀ j, j < k → x.testBit j = false) : x = 2 ^ (k + 1) * (x / 2 ^ (k + 1)) + 2 ^ k := by
  have h1 : x % 2 ^ (k + 1) = 2 ^ k := by
    refine Nat.eq_of_testBit_eq fun j => ?_
    rw [Nat.testBit_mod_two_pow, Nat.testBit_two_pow]
    by_cases e : k = j
    · subst e
      simp [hk]
    · by_cases hj : j < k
      · simp [e, hlow j hj]
      · have : ¬ j < k + 1 := by omega
        simp [e, this]
  have := Nat.div_add_mod x (2 ^ (k + 1))
  omega

theorem and_pred {x k : Nat} (hk : x.testBit k = true) (hlow : ∀ j, j < k → x.testBit j = false) (j : Nat) : (x &&& (x - 1)).testBit j = (decide (k < j) && x.testBit j) := by
  have hf := low_form hk hlow
  have hp : 0 < 2 ^ k := Nat.two_pow_pos k
  have hp1 : 2 ^ k - 1 < 2 ^ (k + 1) := by rw [Nat.pow_succ]; omega
  have e1 : x - 1 = 2 ^ (k + 1) * (x / 2 ^ (k + 1)) + (2 ^ k - 1) := by omega
  rw [Nat.testBit_and, e1, Nat.testBit_two_pow_mul_add _ hp1]
  by_cases hj : j < k
  · have h2 : ¬ k < j := by omega
    simp [h2, hlow j hj]
  · by_cases e : k = j
    · subst e
      simp [Nat.testBit_two_pow_sub_one]
    · have h2 : ¬ j < k + 1 := by omega
      have h3 : k < j := by omega
      rw [if_neg h2]
      have h4 : (x / 2 ^ (k + 1)).testBit (j - (k + 1)) = x.testBit j := by
        rw [Nat.testBit_div_two_pow]
        congr 1
        omega
      simp [h4, h3]

theorem and_neg {x k : Nat} (hx : x < 18446744073709551616) (hk : x.testBit k = true) (hlow : ∀ j, j < k → x.testBit j = false) : x &&& (18446744073709551616 - x) = 2 ^ k := by
  have hk64 : k < 64 := by
    rcases Nat.lt_or_ge k 64 with h | h
    · exact h
    · have : x.testBit k = false := Nat.testBit_lt_two_pow (Nat.lt_of_lt_of_le hx (by rw [show (18446744073709551616 : Nat) = 2 ^ 64 from rfl]; exact Nat.pow_le_pow_right (by omega) h))
      rw [this] at hk
      cases hk
  have hf := low_form hk hlow
  have hp : 0 < 2 ^ k := Nat.two_pow_pos k
  have hq : x / 2 ^ (k + 1) < 2 ^ (63 - k) := by
    rw [Nat.div_lt_iff_lt_mul (Nat.two_pow_pos _), ← Nat.pow_add]
    have : 63 - k + (k + 1) = 64 := by omega
    rw [this]
    exact hx
  have hpow : (18446744073709551616 : Nat) = 2 ^ (k + 1) * 2 ^ (63 - k) := by
    rw [← Nat.pow_add]
    have : k + 1 + (63 - k) = 64 := by omega
    rw [this]
  generalize hqd : x / 2 ^ (k + 1) = q at *
  have hp2 : 2 ^ k < 2 ^ (k + 1) := Nat.pow_lt_pow_right (by omega) (by omega)
  have e1 : 18446744073709551616 - x = 2 ^ (k + 1) * (2 ^ (63 - k) - (q + 1)) + 2 ^ k := by
    rw [Nat.mul_sub, Nat.mul_add, Nat.mul_one, ← hpow]
    have h1 : 2 ^ (k + 1) * (q + 1) ≤ 18446744073709551616 := by rw [hpow]; exact Nat.mul_le_mul_left _ hq
    have h2 : 2 ^ (k + 1) = 2 ^ k + 2 ^ k := by rw [Nat.pow_succ]; omega
    rw [Nat.mul_add, Nat.mul_one] at h1
    omega
  refine Nat.eq_of_testBit_eq fun j => ?_
  rw [Nat.testBit_and, e1, Nat.testBit_two_pow_mul_add _ hp2]
  rw [hf, Nat.testBit_two_pow_mul_add _ hp2, Nat.testBit_two_pow]
  by_cases hj : j < k + 1
  · simp [hj]
  · have hkj : ¬ k = j := by omega
    rw [if_neg hj, if_neg hj, Nat.testBit_two_pow_sub_succ hq]
    cases q.testBit (j - (k + 1)) <;> simp [hkj]

end Go.Proofs.Qxb6615834aFmt
