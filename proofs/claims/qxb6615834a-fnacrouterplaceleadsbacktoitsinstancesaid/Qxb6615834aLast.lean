/-
  zzLastPlace walked.
-/
import Derived.Test.Qxb6615834aChecked
import Derived.WalkKit
import Derived.WalkSpells
import Derived.WalkLawsBesides
import Derived.Deep.LoopGhost
import Derived.Deep.OwnRows
import Derived.Deep.Light
namespace Go.Proofs.Qxb6615834a
open Go.RowKit

/-- the rows of names as they lie in memory -/
structure NamesAt (w : World) (b off n : Nat) (RL RC RB RO : Nat → Nat) (S : Nat → Nat → ByteArray) : Prop where
  row : ∀ i, i < n → ∃ ra, w.cell? ⟨b, off + i, none⟩ = some (.slice ra (RL i) (RC i)) ∧ (0 < RL i → ra = some ⟨RB i, RO i, none⟩)
  name : ∀ i, i < n → ∀ j, j < RL i → w.cell? ⟨RB i, RO i + j, none⟩ = some (.string (S i j))
  fit : ∀ i, i < n → RL i ≤ 9223372036854775807

def lpI (S : Nat → Nat → ByteArray) (s : ByteArray) (c : Nat) (acc : Option (Nat × Nat)) : Nat → Option (Nat × Nat)
  | 0 => acc
  | j + 1 => if ((S c j).toList == s.toList) = true then some (c, j) else lpI S s c acc j
def lp (S : Nat → Nat → ByteArray) (RL : Nat → Nat) (s : ByteArray) : Nat → Option (Nat × Nat)
  | 0 => none
  | c + 1 => lpI S s c (lp S RL s c) (RL c)
def fstOf (o : Option (Nat × Nat)) : Nat := (o.map (·.1)).getD 0
def sndOf (o : Option (Nat × Nat)) : Nat := (o.map (·.2)).getD 0

set_option maxHeartbeats 400000 in
theorem lastPlace_any (A : Option Addr) (b off n cap : Nat) (RL RC RB RO : Nat → Nat) (S : Nat → Nat → ByteArray) (s : ByteArray) (w : World)
    (hn : n ≤ 9223372036854775807) (hA : 0 < n → A = some ⟨b, off, none⟩) (hN : NamesAt w b off n RL RC RB RO S) :
    Calls Try.prog 19 #[.slice A n cap, .string s] w fun e w' => e = .returned (.tuple #[.int .i64 (fstOf (lp S RL s n)), .int .i64 (sndOf (lp S RL s n)), .bool (lp S RL s n).isSome]) ∧ w' = w := by
  obtain ⟨hrow, hat, hfit⟩ := hN
  go_enter Try.func19, Try.ntmps19
  go_wp2
  go_loopg [7, 8, 9, 14] n (fun g x7 x8 x9 i wr => ∃ c : Nat, c ≤ n ∧ g = n - c ∧ wr = w ∧ i = .int .i64 c ∧ x7 = .int .i64 (fstOf (lp S RL s c)) ∧ x8 = .int .i64 (sndOf (lp S RL s c)) ∧ x9 = .bool (lp S RL s c).isSome)
  case atStart => exact ⟨0, Nat.zero_le _, rfl, rfl, rfl, rfl, rfl, rfl⟩
  case round =>
    obtain ⟨c, hc, rfl, rfl, rfl, rfl, rfl, rfl⟩ := hrel
    by_cases hlt : c < n
    · obtain rfl := hA (by omega)
      clear hA
      have hrz : (c : Int) < (n : Int) := by omega
      obtain ⟨ra, g0, hra⟩ := hrow c hlt
      have g1 := hat c hlt
      have g2 := hfit c hlt
      go_wp2
      go_loopg [7, 8, 9, 22] (RL c) (fun g x7 x8 x9 i wx => ∃ j : Nat, j ≤ RL c ∧ g = RL c - j ∧ wx = wr ∧ i = .int .i64 j ∧ x7 = .int .i64 (fstOf (lpI S s c (lp S RL s c) j)) ∧ x8 = .int .i64 (sndOf (lpI S s c (lp S RL s c) j)) ∧ x9 = .bool (lpI S s c (lp S RL s c) j).isSome)
      case atStart => exact ⟨0, Nat.zero_le _, rfl, rfl, rfl, rfl, rfl, rfl⟩
      case round =>
        obtain ⟨j, hj, rfl, rfl, rfl, rfl, rfl, rfl⟩ := hrel
        by_cases hjl : j < RL c
        · obtain rfl := hra (by omega)
          clear hra
          have hjz : (j : Int) < (RL c : Int) := by omega
          have g3 := g1 j hjl
          go_wp2
          · go_roundg (RL c - (j + 1))
            case measure => go_light; omega
            case rel => go_light; exact ⟨j + 1, by omega, rfl, rfl, by go_num, by simp [lpI, *, fstOf], by simp [lpI, *, sndOf], by simp [lpI, *]⟩
          · go_roundg (RL c - (j + 1))
            case measure => go_light; omega
            case rel => go_light; exact ⟨j + 1, by omega, rfl, rfl, by go_num, by simp [lpI, *, fstOf], by simp [lpI, *, sndOf], by simp [lpI, *]⟩
        · go_wp2
          have e : j = RL c := by omega
          subst e
          go_roundg (n - (c + 1))
          case measure => go_light; omega
          case rel => go_light; exact ⟨c + 1, by omega, rfl, rfl, by go_num, rfl, rfl, rfl⟩
    · go_wp2
      have e : c = n := by omega
      subst e
      go_ret3
      exact ⟨rfl, rfl⟩

end Go.Proofs.Qxb6615834a
