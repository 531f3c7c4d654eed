/-
  zzBytes.. and zzNamesFit walked.
-/
import Derived.Test.Qxb6615834aLast
namespace Go.Proofs.Qxb6615834a
open Go.RowKit

def rlSum (RL : Nat → Nat) : Nat → Nat
  | 0 => 0
  | c + 1 => rlSum RL c + RL c

/-- a bool is returned; where it is true, p holds -/
def SomeBool (e : Ending) (p : Prop) : Prop := ∃ bv, e = .returned (.bool bv) ∧ (bv = true → p)
theorem someBool_no {p : Prop} : SomeBool (.returned (.bool false)) p := ⟨false, rfl, fun h => by cases h⟩
theorem someBool_yes {p : Prop} (h : p) : SomeBool (.returned (.bool true)) p := ⟨true, rfl, fun _ => h⟩

set_option maxHeartbeats 400000 in
theorem bytes12_any (A : Option Addr) (b off n cap : Nat) (RL RC RB RO : Nat → Nat) (S : Nat → Nat → ByteArray) (s : ByteArray) (w : World)
    (hn : n ≤ 9223372036854775807) (hA : 0 < n → A = some ⟨b, off, none⟩) (hN : NamesAt w b off n RL RC RB RO S) :
    Calls Try.prog 12 #[.slice A n cap, .string s] w fun e w' => SomeBool e True ∧ w' = w := by
  obtain ⟨hrow, hat, hfit⟩ := hN
  by_cases h20 : (1048576 : Int) < (n : Int)
  · go_enter Try.func12, Try.ntmps12
    go_wp2
    go_ret
    first | exact ⟨someBool_no, rfl⟩ | exact ⟨someBool_yes trivial, rfl⟩
  go_enter Try.func12, Try.ntmps12
  go_wp2
  go_loopg [5, 6] n (fun g t i wr => ∃ (c : Nat) (z : Int), c ≤ n ∧ g = n - c ∧ wr = w ∧ i = .int .i64 c ∧ t = .int .i64 z ∧ 0 ≤ z ∧ z ≤ 1048576)
  case atStart => exact ⟨0, n, Nat.zero_le _, rfl, rfl, rfl, rfl, by omega, by omega⟩
  case round =>
    obtain ⟨c, z, hc, rfl, rfl, rfl, rfl, hz0, hz1⟩ := hrel
    by_cases hlt : c < n
    · obtain rfl := hA (by omega)
      clear hA
      have hrz : (c : Int) < (n : Int) := by omega
      obtain ⟨ra, g0, hra⟩ := hrow c hlt
      have g1 := hat c hlt
      have g2 := hfit c hlt
      by_cases hr20 : (1048576 : Int) < (RL c : Int)
      · go_wp2
        go_ret
        first | exact ⟨someBool_no, rfl⟩ | exact ⟨someBool_yes trivial, rfl⟩
      by_cases hs20 : (1048576 : Int) < z + (RL c : Int)
      · go_wp2
        go_ret
        first | exact ⟨someBool_no, rfl⟩ | exact ⟨someBool_yes trivial, rfl⟩
      go_wp2
      go_loopg [5, 7] (RL c) (fun g t i wx => ∃ (j : Nat) (y : Int), j ≤ RL c ∧ g = RL c - j ∧ wx = wr ∧ i = .int .i64 j ∧ t = .int .i64 y ∧ 0 ≤ y ∧ y ≤ 1048576)
      case atStart => exact ⟨0, _, Nat.zero_le _, rfl, rfl, rfl, rfl, by omega, by omega⟩
      case round =>
        obtain ⟨j, y, hj, rfl, rfl, rfl, rfl, hy0, hy1⟩ := hrel
        by_cases hjl : j < RL c
        · obtain rfl := hra (by omega)
          clear hra
          have hjz : (j : Int) < (RL c : Int) := by omega
          have g3 := g1 j hjl
          by_cases hq : (1048576 : Int) < ((S c j).size : Int)
          · go_wp2
            go_ret
            first | exact ⟨someBool_no, rfl⟩ | exact ⟨someBool_yes trivial, rfl⟩
          by_cases hq2 : (1048576 : Int) < y + ((S c j).size : Int)
          · go_wp2
            go_ret
            first | exact ⟨someBool_no, rfl⟩ | exact ⟨someBool_yes trivial, rfl⟩
          go_wp2
          go_roundg (RL c - (j + 1))
          case measure => go_light; omega
          case rel => go_light; exact ⟨j + 1, _, by omega, rfl, rfl, by go_num, rfl, by omega, by omega⟩
        · go_wp2
          go_roundg (n - (c + 1))
          case measure => go_light; omega
          case rel => go_light; exact ⟨c + 1, _, by omega, rfl, rfl, by go_num, rfl, by omega, by omega⟩
    · go_wp2
      all_goals
        go_ret
        first | exact ⟨someBool_no, rfl⟩ | exact ⟨someBool_yes trivial, rfl⟩

set_option maxHeartbeats 400000 in
theorem bytes5_any (A : Option Addr) (b off n cap : Nat) (RL RC RB RO : Nat → Nat) (S : Nat → Nat → ByteArray) (k : Int) (s : ByteArray) (w : World)
    (hn : n ≤ 9223372036854775807) (hA : 0 < n → A = some ⟨b, off, none⟩) (hN : NamesAt w b off n RL RC RB RO S) :
    Calls Try.prog 5 #[.slice A n cap, .int .i64 k, .string s] w fun e w' => SomeBool e True ∧ w' = w := by
  obtain ⟨hrow, hat, hfit⟩ := hN
  by_cases h20 : (1048576 : Int) < (n : Int)
  · go_enter Try.func5, Try.ntmps5
    go_wp2
    go_ret
    first | exact ⟨someBool_no, rfl⟩ | exact ⟨someBool_yes trivial, rfl⟩
  go_enter Try.func5, Try.ntmps5
  go_wp2
  go_loopg [7, 8] n (fun g t i wr => ∃ (c : Nat) (z : Int), c ≤ n ∧ g = n - c ∧ wr = w ∧ i = .int .i64 c ∧ t = .int .i64 z ∧ 0 ≤ z ∧ z ≤ 1048576)
  case atStart => exact ⟨0, n, Nat.zero_le _, rfl, rfl, rfl, rfl, by omega, by omega⟩
  case round =>
    obtain ⟨c, z, hc, rfl, rfl, rfl, rfl, hz0, hz1⟩ := hrel
    by_cases hlt : c < n
    · obtain rfl := hA (by omega)
      clear hA
      have hrz : (c : Int) < (n : Int) := by omega
      obtain ⟨ra, g0, hra⟩ := hrow c hlt
      have g1 := hat c hlt
      have g2 := hfit c hlt
      by_cases hr20 : (1048576 : Int) < (RL c : Int)
      · go_wp2
        go_ret
        first | exact ⟨someBool_no, rfl⟩ | exact ⟨someBool_yes trivial, rfl⟩
      by_cases hs20 : (1048576 : Int) < z + (RL c : Int)
      · go_wp2
        go_ret
        first | exact ⟨someBool_no, rfl⟩ | exact ⟨someBool_yes trivial, rfl⟩
      go_wp2
      go_loopg [7, 9] (RL c) (fun g t i wx => ∃ (j : Nat) (y : Int), j ≤ RL c ∧ g = RL c - j ∧ wx = wr ∧ i = .int .i64 j ∧ t = .int .i64 y ∧ 0 ≤ y ∧ y ≤ 1048576)
      case atStart => exact ⟨0, _, Nat.zero_le _, rfl, rfl, rfl, rfl, by omega, by omega⟩
      case round =>
        obtain ⟨j, y, hj, rfl, rfl, rfl, rfl, hy0, hy1⟩ := hrel
        by_cases hjl : j < RL c
        · obtain rfl := hra (by omega)
          clear hra
          have hjz : (j : Int) < (RL c : Int) := by omega
          have g3 := g1 j hjl
          by_cases hq : (1048576 : Int) < ((S c j).size : Int)
          · go_wp2
            go_ret
            first | exact ⟨someBool_no, rfl⟩ | exact ⟨someBool_yes trivial, rfl⟩
          by_cases hq2 : (1048576 : Int) < y + ((S c j).size : Int)
          · go_wp2
            go_ret
            first | exact ⟨someBool_no, rfl⟩ | exact ⟨someBool_yes trivial, rfl⟩
          go_wp2
          go_roundg (RL c - (j + 1))
          case measure => go_light; omega
          case rel => go_light; exact ⟨j + 1, _, by omega, rfl, rfl, by go_num, rfl, by omega, by omega⟩
        · go_wp2
          go_roundg (n - (c + 1))
          case measure => go_light; omega
          case rel => go_light; exact ⟨c + 1, _, by omega, rfl, rfl, by go_num, rfl, by omega, by omega⟩
    · go_wp2
      all_goals
        go_ret
        first | exact ⟨someBool_no, rfl⟩ | exact ⟨someBool_yes trivial, rfl⟩

set_option maxHeartbeats 1000000 in
theorem namesFit_any (A : Option Addr) (b off n cap : Nat) (RL RC RB RO : Nat → Nat) (S : Nat → Nat → ByteArray) (s : ByteArray) (w : World)
    (hn : n ≤ 9223372036854775807) (hA : 0 < n → A = some ⟨b, off, none⟩) (hN : NamesAt w b off n RL RC RB RO S) :
    Calls Try.prog 6 #[.slice A n cap, .string s] w fun e w' => SomeBool e (n ≤ 32768 ∧ rlSum RL n ≤ 65536) ∧ w' = w := by
  obtain ⟨hrow, hat, hfit⟩ := hN
  by_cases h15 : (32768 : Int) < (n : Int)
  · go_enter Try.func6, Try.ntmps6
    go_wp2
    go_ret
    exact ⟨someBool_no, rfl⟩
  by_cases h20 : (1048576 : Int) < (s.size : Int)
  · go_enter Try.func6, Try.ntmps6
    go_wp2
    go_ret
    exact ⟨someBool_no, rfl⟩
  by_cases h21 : (1048576 : Int) < 24 * (n : Int) + (s.size : Int)
  · go_enter Try.func6, Try.ntmps6
    go_wp2
    go_ret
    exact ⟨someBool_no, rfl⟩
  go_enter Try.func6, Try.ntmps6
  go_wp2
  go_loopg [5, 27] n (fun g t i wr => ∃ (c : Nat) (z : Int), c ≤ n ∧ g = n - c ∧ wr = w ∧ i = .int .i64 c ∧ t = .int .i64 z ∧ 16 * (rlSum RL c : Int) ≤ z ∧ z ≤ 1048576)
  case atStart => exact ⟨0, _, Nat.zero_le _, rfl, rfl, rfl, rfl, by simp [rlSum]; omega, by omega⟩
  case round =>
    obtain ⟨c, z, hc, rfl, rfl, rfl, rfl, hz0, hz1⟩ := hrel
    by_cases hlt : c < n
    · obtain rfl := hA (by omega)
      clear hA
      have hrz : (c : Int) < (n : Int) := by omega
      obtain ⟨ra, g0, hra⟩ := hrow c hlt
      have g1 := hat c hlt
      have g2 := hfit c hlt
      by_cases hr20 : (65536 : Int) < (RL c : Int)
      · go_wp2
        go_ret
        exact ⟨someBool_no, rfl⟩
      by_cases hs20 : (1048576 : Int) < z + 16 * (RL c : Int)
      · go_wp2
        go_ret
        exact ⟨someBool_no, rfl⟩
      go_wp2
      go_loopg [5, 46] (RL c) (fun g t i wx => ∃ (j : Nat) (y : Int), j ≤ RL c ∧ g = RL c - j ∧ wx = wr ∧ i = .int .i64 j ∧ t = .int .i64 y ∧ 16 * (rlSum RL c : Int) + 16 * (RL c : Int) ≤ y ∧ y ≤ 1048576)
      case atStart => exact ⟨0, _, Nat.zero_le _, rfl, rfl, rfl, rfl, by omega, by omega⟩
      case round =>
        obtain ⟨j, y, hj, rfl, rfl, rfl, rfl, hy0, hy1⟩ := hrel
        by_cases hjl : j < RL c
        · obtain rfl := hra (by omega)
          clear hra
          have hjz : (j : Int) < (RL c : Int) := by omega
          have g3 := g1 j hjl
          by_cases hq : (1048576 : Int) < ((S c j).size : Int)
          · go_wp2
            go_ret
            exact ⟨someBool_no, rfl⟩
          by_cases hq2 : (1048576 : Int) < y + ((S c j).size : Int)
          · go_wp2
            go_ret
            exact ⟨someBool_no, rfl⟩
          go_wp2
          go_roundg (RL c - (j + 1))
          case measure => go_light; omega
          case rel => go_light; exact ⟨j + 1, _, by omega, rfl, rfl, by go_num, rfl, by omega, by omega⟩
        · go_wp2
          go_roundg (n - (c + 1))
          case measure => go_light; omega
          case rel => go_light; exact ⟨c + 1, _, by omega, rfl, rfl, by go_num, rfl, by simp only [rlSum]; omega, by omega⟩
    · have e : c = n := by omega
      subst e
      go_wp2
      go_ret
      exact ⟨someBool_yes (by omega), rfl⟩

def dcI (S : Nat → Nat → ByteArray) (RL : Nat → Nat) (n c : Nat) : Nat → Nat
  | 0 => 0
  | j + 1 => dcI S RL n c j + (if lp S RL (S c j) n = some (c, j) then 1 else 0)
def dc (S : Nat → Nat → ByteArray) (RL : Nat → Nat) (n : Nat) : Nat → Nat
  | 0 => 0
  | c + 1 => dc S RL n c + dcI S RL n c (RL c)
theorem dcI_le (S : Nat → Nat → ByteArray) (RL : Nat → Nat) (n c : Nat) : ∀ j, dcI S RL n c j ≤ j
  | 0 => Nat.le_refl _
  | j + 1 => by have := dcI_le S RL n c j; simp only [dcI]; split <;> omega
theorem dc_le (S : Nat → Nat → ByteArray) (RL : Nat → Nat) (n : Nat) : ∀ c, dc S RL n c ≤ rlSum RL c
  | 0 => Nat.le_refl _
  | c + 1 => by have := dc_le S RL n c; have := dcI_le S RL n c (RL c); simp only [dc, rlSum]; omega
theorem rlSum_mono (RL : Nat → Nat) {a b : Nat} (h : a ≤ b) : rlSum RL a ≤ rlSum RL b := by
  induction h with
  | refl => exact Nat.le_refl _
  | step _ ih => simp only [rlSum]; omega

end Go.Proofs.Qxb6615834a
