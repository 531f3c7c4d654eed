/-
  math/bits.OnesCount64 and TrailingZeros64: the walks.
-/
import Derived.Test.Qxb6615834aFmtRows
import Derived.Test.Qxb6615834aFmtPop
import Derived.WalkKit
import Derived.WalkSpells
import Derived.WalkLawsBesides
import Derived.Laws.BitsAll
namespace Go.Proofs.Qxb6615834aFmt
open Go.RowKit

theorem and_u64 (a b : Nat) (ha : a < 18446744073709551616) (hb : b < 18446744073709551616) : bits .and .u64 (a : Int) (b : Int) = ((a &&& b : Nat) : Int) := u64_and_nat a b ha hb

theorem wrap_u64_nat (a : Nat) (ha : a < 18446744073709551616) : IntKind.u64.wrap (a : Int) = (a : Int) := by
  rw [IntKind.wrap_u64]
  omega

/-- One mask-and-add step. -/
theorem maskStep (x k m : Nat) (hx : x < 18446744073709551616) (hm : m < 9223372036854775808) :
    IntKind.u64.wrap (bits .and .u64 ((x : Int) / (k : Int)) (m : Int) + bits .and .u64 (x : Int) (m : Int)) = (((x / k &&& m) + (x &&& m) : Nat) : Int) := by
  have h1 : x / k < 18446744073709551616 := Nat.lt_of_le_of_lt (Nat.div_le_self _ _) hx
  have e1 : (x : Int) / (k : Int) = ((x / k : Nat) : Int) := by simp
  have h2 : (x / k &&& m) ≤ m := Nat.and_le_right
  have h3 : (x &&& m) ≤ m := Nat.and_le_right
  rw [e1, and_u64 _ _ h1 (by omega), and_u64 _ _ hx (by omega), ← Int.natCast_add, wrap_u64_nat _ (by omega)]

theorem addStep (x k : Nat) (hx : x + x / k < 18446744073709551616) :
    IntKind.u64.wrap ((x : Int) + (x : Int) / (k : Int)) = ((x + x / k : Nat) : Int) := by
  have e1 : (x : Int) / (k : Int) = ((x / k : Nat) : Int) := by simp
  rw [e1, ← Int.natCast_add, wrap_u64_nat _ hx]

theorem addStep' (x k : Nat) (hx : x / k + x < 18446744073709551616) :
    IntKind.u64.wrap ((x : Int) / (k : Int) + (x : Int)) = ((x / k + x : Nat) : Int) := by
  have e1 : (x : Int) / (k : Int) = ((x / k : Nat) : Int) := by simp
  rw [e1, ← Int.natCast_add, wrap_u64_nat _ hx]

theorem i64_and127 (x : Nat) : bits .and .i64 (wrap64 (x : Int)) 127 = ((x % 128 : Nat) : Int) := by
  show IntKind.i64.wrap ((BitVec.ofInt 64 (wrap64 (x : Int)) &&& BitVec.ofInt 64 127).toNat : Int) = _
  have e1 : (BitVec.ofInt 64 (wrap64 (x : Int))).toNat = x % 18446744073709551616 := by
    rw [BitVec.toNat_ofInt]
    unfold wrap64
    omega
  have e2 : (BitVec.ofInt 64 127).toNat = 2 ^ 7 - 1 := by decide
  rw [BitVec.toNat_and, e1, e2, Nat.and_two_pow_sub_one_eq_mod]
  have e3 : x % 18446744073709551616 % 2 ^ 7 = x % 128 := by omega
  rw [e3]
  have h : x % 128 < 128 := Nat.mod_lt _ (by omega)
  generalize x % 128 = r at h
  rw [IntKind.wrap_i64]
  omega

set_option maxHeartbeats 1000000 in
theorem onesCount_any (x : Nat) (hx : x < 18446744073709551616) (w : World) :
    Calls Tryf.prog 48 #[.int .u64 (x : Int)] w fun e w' => e = .returned (.int .i64 (ones x : Int)) ∧ w' = w := by
  obtain ⟨a, ha⟩ : ∃ a, (x / 2 &&& 6148914691236517205) + (x &&& 6148914691236517205) = a := ⟨_, rfl⟩
  obtain ⟨b, hb⟩ : ∃ b, (a / 4 &&& 3689348814741910323) + (a &&& 3689348814741910323) = b := ⟨_, rfl⟩
  obtain ⟨c, hc⟩ : ∃ c, (b / 16 + b) &&& 1085102592571150095 = c := ⟨_, rfl⟩
  obtain ⟨d, hd⟩ : ∃ d, c + c / 256 = d := ⟨_, rfl⟩
  obtain ⟨e, he⟩ : ∃ e, d + d / 65536 = e := ⟨_, rfl⟩
  obtain ⟨f, hf⟩ : ∃ f, e + e / 4294967296 = f := ⟨_, rfl⟩
  have hones : ones x = f % 128 := by subst ha hb hc hd he hf; rfl
  have b1 : (x / 2 &&& 6148914691236517205) ≤ 6148914691236517205 := Nat.and_le_right
  have b2 : (x &&& 6148914691236517205) ≤ 6148914691236517205 := Nat.and_le_right
  have b3 : (a / 4 &&& 3689348814741910323) ≤ 3689348814741910323 := Nat.and_le_right
  have b4 : (a &&& 3689348814741910323) ≤ 3689348814741910323 := Nat.and_le_right
  have b5 : ((b / 16 + b) &&& 1085102592571150095) ≤ 1085102592571150095 := Nat.and_le_right
  have s1 := maskStep x 2 6148914691236517205 hx (by omega)
  rw [ha] at s1
  have s2 := maskStep a 4 3689348814741910323 (by omega) (by omega)
  rw [hb] at s2
  have s3 := addStep' b 16 (by omega)
  have s4 := and_u64 (b / 16 + b) 1085102592571150095 (by omega) (by omega)
  rw [hc] at s4
  have s5 := addStep c 256 (by omega)
  rw [hd] at s5
  have s6 := addStep d 65536 (by omega)
  rw [he] at s6
  have s7 := addStep e 4294967296 (by omega)
  rw [hf] at s7
  have s8 := i64_and127 f
  rw [hones]
  generalize f % 128 = r at s8 ⊢
  generalize b / 16 + b = b' at s3 s4
  simp only [Int.cast_ofNat_Int] at s1 s2 s3 s4 s5 s6 s7
  clear hones ha hb hc hd he hf b1 b2 b3 b4 b5
  go_enter Tryf.func48, Tryf.ntmps48
  go_wp2
  go_ret
  exact ⟨by simp, rfl⟩

/-! ### TrailingZeros64 -/

/-- deBruijn64tab, as Go's text lays it. -/
def dbTab : Array Nat := #[0, 1, 56, 2, 57, 49, 28, 3, 61, 58, 42, 50, 38, 29, 17, 4, 62, 47, 59, 36, 45, 43, 51, 22, 53, 39, 33, 30, 24, 18, 12, 5, 63, 55, 48, 27, 60, 41, 37, 16, 46, 35, 44, 21, 52, 32, 23, 11, 54, 26, 40, 15, 34, 20, 31, 10, 25, 14, 19, 9, 13, 8, 7, 6]

/-- The table lies as laid. -/
def TabAt (w : World) : Prop := ∀ k, k < 64 → w.cell? ⟨0, k, none⟩ = some (.int .u8 ((dbTab[k]?.getD 0 : Nat) : Int))

def dbIdx (k : Nat) : Nat := 2 ^ k * 285870213051353865 % 18446744073709551616 / 288230376151711744

theorem dbIdx_lt (k : Nat) : dbIdx k < 64 := by
  unfold dbIdx
  have := Nat.mod_lt (2 ^ k * 285870213051353865) (show 0 < 18446744073709551616 by omega)
  omega

theorem dbTab_ok : ∀ k, k < 64 → dbTab[dbIdx k]?.getD 0 = k := by decide +kernel

theorem neg_and {x k : Nat} (hx : x < 18446744073709551616) (hpos : 0 < x) (hk : x.testBit k = true) (hlow : ∀ j, j < k → x.testBit j = false) :
    bits .and .u64 (x : Int) (IntKind.u64.wrap (-(x : Int))) = ((2 ^ k : Nat) : Int) := by
  have : IntKind.u64.wrap (-(x : Int)) = ((18446744073709551616 - x : Nat) : Int) := by
    rw [IntKind.wrap_u64]
    omega
  rw [this, and_u64 _ _ hx (by omega), and_neg hx hk hlow]

theorem mul_wrap (y c : Nat) : IntKind.u64.wrap ((y : Int) * (c : Int)) = ((y * c % 18446744073709551616 : Nat) : Int) := by
  rw [IntKind.wrap_u64, ← Int.natCast_mul]
  omega

theorem bit_lt {x k : Nat} (hx : x < 18446744073709551616) (hk : x.testBit k = true) : k < 64 := by
  rcases Nat.lt_or_ge k 64 with h | h
  · exact h
  · have : x.testBit k = false := Nat.testBit_lt_two_pow (Nat.lt_of_lt_of_le hx (by rw [show (18446744073709551616 : Nat) = 2 ^ 64 from rfl]; exact Nat.pow_le_pow_right (by omega) h))
    rw [this] at hk
    cases hk

theorem div_cast (z c : Nat) : (z : Int) / (c : Int) = ((z / c : Nat) : Int) := by simp

theorem db_facts (x k : Nat) (hx : x < 18446744073709551616) (hpos : 0 < x) (hk : x.testBit k = true) (hlow : ∀ j, j < k → x.testBit j = false) (w : World) (ht : TabAt w) :
    ∃ y z i : Nat, bits .and .u64 (x : Int) (IntKind.u64.wrap (-(x : Int))) = (y : Int) ∧ IntKind.u64.wrap ((y : Int) * 285870213051353865) = (z : Int) ∧ (z : Int) / 288230376151711744 = (i : Int) ∧
      (i : Int) < 64 ∧ w.cell? ⟨0, i, none⟩ = some (.int .u8 (k : Int)) := by
  have e4 := ht (dbIdx k) (dbIdx_lt k)
  rw [dbTab_ok k (bit_lt hx hk)] at e4
  have e5 := dbIdx_lt k
  exact ⟨2 ^ k, _, dbIdx k, neg_and hx hpos hk hlow, mul_wrap (2 ^ k) 285870213051353865, div_cast _ 288230376151711744, by omega, e4⟩

set_option maxHeartbeats 1000000 in
theorem trailing_any (x k : Nat) (hx : x < 18446744073709551616) (hk : x.testBit k = true) (hlow : ∀ j, j < k → x.testBit j = false) (w : World) (ht : TabAt w) :
    Calls Tryf.prog 47 #[.int .u64 (x : Int)] w fun e w' => e = .returned (.int .i64 (k : Int)) ∧ w' = w := by
  have hpos : 0 < x := by
    rcases Nat.eq_zero_or_pos x with h | h
    · subst h
      simp at hk
    · exact h
  have hx0 : ¬ (x : Int) = 0 := by omega
  obtain ⟨y, z, i, e1, e2, e3, e6, e4⟩ := db_facts x k hx hpos hk hlow w ht
  have e5 : i < 64 := by omega
  have e7 := bit_lt hx hk
  clear hk hlow ht
  go_enter Tryf.func47, Tryf.ntmps47
  go_wp2_with fail
  go_ret
  exact ⟨rfl, rfl⟩

end Go.Proofs.Qxb6615834aFmt
