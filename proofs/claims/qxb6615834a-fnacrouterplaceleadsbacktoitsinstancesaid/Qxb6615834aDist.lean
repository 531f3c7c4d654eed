/-
  zzDistinct walked.
-/
import Derived.Test.Qxb6615834aFits
namespace Go.Proofs.Qxb6615834a
open Go.RowKit

theorem lpI_some {S : Nat → Nat → ByteArray} {s : ByteArray} {c : Nat} {acc : Option (Nat × Nat)} : ∀ {m : Nat}, acc.isSome = true ∨ (∃ j, j < m ∧ ((S c j).toList == s.toList) = true) → (lpI S s c acc m).isSome = true
  | 0, h => by
    rcases h with h | ⟨j, hj, _⟩
    · exact h
    · omega
  | m + 1, h => by
    unfold lpI
    split
    · rfl
    · rename_i hne
      refine lpI_some ?_
      rcases h with h | ⟨j, hj, hs⟩
      · exact Or.inl h
      · refine Or.inr ⟨j, ?_, hs⟩
        rcases Nat.lt_succ_iff_lt_or_eq.1 hj with h | h
        · exact h
        · subst h; exact absurd hs hne

theorem lp_some {S : Nat → Nat → ByteArray} {RL : Nat → Nat} {s : ByteArray} : ∀ {n c j : Nat}, c < n → j < RL c → ((S c j).toList == s.toList) = true → (lp S RL s n).isSome = true
  | n + 1, c, j, hc, hj, hs => by
    unfold lp
    rcases Nat.lt_succ_iff_lt_or_eq.1 hc with h | h
    · exact lpI_some (Or.inl (lp_some h hj hs))
    · subst h; exact lpI_some (Or.inr ⟨j, hj, hs⟩)

theorem some_of_parts {o : Option (Nat × Nat)} {c j : Nat} (h : o.isSome = true) (h1 : ((fstOf o : Int) == (c : Int)) = true) (h2 : ((sndOf o : Int) == (j : Int)) = true) : o = some (c, j) := by
  cases o with
  | none => cases h
  | some p =>
    obtain ⟨a, b⟩ := p
    simp [fstOf, sndOf] at h1 h2
    rw [show a = c by omega, show b = j by omega]

theorem parts_of_some {o : Option (Nat × Nat)} {c j : Nat} (h : o = some (c, j)) : ((fstOf o : Int) == (c : Int)) = true ∧ ((sndOf o : Int) == (j : Int)) = true := by
  subst h; simp [fstOf, sndOf]

theorem dcI_yes {S : Nat → Nat → ByteArray} {RL : Nat → Nat} {n c j : Nat} (h : lp S RL (S c j) n = some (c, j)) : dcI S RL n c (j + 1) = dcI S RL n c j + 1 := by simp [dcI, h]
theorem dcI_no {S : Nat → Nat → ByteArray} {RL : Nat → Nat} {n c j : Nat} (h : lp S RL (S c j) n ≠ some (c, j)) : dcI S RL n c (j + 1) = dcI S RL n c j := by simp [dcI, h]

set_option maxHeartbeats 1000000 in
theorem distinct_any (A : Option Addr) (b off n cap : Nat) (RL RC RB RO : Nat → Nat) (S : Nat → Nat → ByteArray) (w : World)
    (hn : n ≤ 32768) (hsum : rlSum RL n ≤ 65536) (hA : 0 < n → A = some ⟨b, off, none⟩) (hN : NamesAt w b off n RL RC RB RO S) :
    Calls Try.prog 10 #[.slice A n cap] w fun e w' => e = .returned (.int .i64 (dc S RL n n)) ∧ w' = w := by
  have hNN := hN
  obtain ⟨hrow, hat, hfit⟩ := hN
  go_enter Try.func10, Try.ntmps10
  go_wp2
  go_loopg [3, 11] n (fun g t i wr => ∃ c : Nat, c ≤ n ∧ g = n - c ∧ wr = w ∧ i = .int .i64 c ∧ t = .int .i64 (dc S RL n c))
  case atStart => exact ⟨0, Nat.zero_le _, rfl, rfl, rfl, rfl⟩
  case round =>
    obtain ⟨c, hc, rfl, rfl, rfl, rfl⟩ := hrel
    by_cases hlt : c < n
    · obtain rfl := hA (by omega)
      clear hA
      have hrz : (c : Int) < (n : Int) := by omega
      obtain ⟨ra, g0, hra⟩ := hrow c hlt
      have g1 := hat c hlt
      have g2 := hfit c hlt
      have hsc := rlSum_mono RL (show c + 1 ≤ n from hlt)
      have hdc := dc_le S RL n c
      have hsc' : rlSum RL (c + 1) = rlSum RL c + RL c := rfl
      have hb1 : dc S RL n c + RL c ≤ 65536 := by omega
      clear hsc hdc hsc'
      go_wp2
      go_loopg [3, 19] (RL c) (fun g t i wx => ∃ j : Nat, j ≤ RL c ∧ g = RL c - j ∧ wx = wr ∧ i = .int .i64 j ∧ t = .int .i64 ((dc S RL n c + dcI S RL n c j : Nat)))
      case atStart => exact ⟨0, Nat.zero_le _, rfl, rfl, rfl, rfl⟩
      case round =>
        obtain ⟨j, hj, rfl, rfl, rfl, rfl⟩ := hrel
        by_cases hjl : j < RL c
        · obtain rfl := hra (by omega)
          clear hra
          have hjz : (j : Int) < (RL c : Int) := by omega
          have g3 := g1 j hjl
          have hle := dcI_le S RL n c j
          obtain ⟨dcn, hdn⟩ : ∃ x, x = dc S RL n c + dcI S RL n c j := ⟨_, rfl⟩
          have hb2 : dcn ≤ 65536 := by omega
          have hsome := lp_some (S := S) (RL := RL) (s := S c j) hlt hjl (by simp)
          rw [← hdn]
          have Hdn : Hid (dcn = dc S RL n c + dcI S RL n c j) := hdn
          clear hdn hle
          have Hsome : Hid ((lp S RL (S c j) n).isSome = true) := hsome
          clear hsome
          cases h1 : ((fstOf (lp S RL (S c j) n) : Int) == (c : Int))
          · have Hno : Hid (lp S RL (S c j) n ≠ some (c, j)) := fun h => by rw [(parts_of_some h).1] at h1; cases h1
            go_wp2_with (go_at_call 19; refine (lastPlace_any _ b off n _ RL RC RB RO S _ _ (by omega) (fun _ => rfl) hNN).mono ?_; rintro e w' ⟨rfl, rfl⟩)
            go_roundg (RL c - (j + 1))
            case measure => go_light; omega
            case rel => go_light; exact ⟨j + 1, by omega, rfl, rfl, by go_num, by rw [dcI_no Hno.out, Hdn.out]⟩
          · cases h2 : ((sndOf (lp S RL (S c j) n) : Int) == (j : Int))
            · have Hno : Hid (lp S RL (S c j) n ≠ some (c, j)) := fun h => by rw [(parts_of_some h).2] at h2; cases h2
              go_wp2_with (go_at_call 19; refine (lastPlace_any _ b off n _ RL RC RB RO S _ _ (by omega) (fun _ => rfl) hNN).mono ?_; rintro e w' ⟨rfl, rfl⟩)
              go_roundg (RL c - (j + 1))
              case measure => go_light; omega
              case rel => go_light; exact ⟨j + 1, by omega, rfl, rfl, by go_num, by rw [dcI_no Hno.out, Hdn.out]⟩
            · have Hy : Hid (lp S RL (S c j) n = some (c, j)) := some_of_parts Hsome.out h1 h2
              go_wp2_with (go_at_call 19; refine (lastPlace_any _ b off n _ RL RC RB RO S _ _ (by omega) (fun _ => rfl) hNN).mono ?_; rintro e w' ⟨rfl, rfl⟩)
              go_roundg (RL c - (j + 1))
              case measure => go_light; omega
              case rel => go_light; exact ⟨j + 1, by omega, rfl, rfl, by go_num, by rw [dcI_yes Hy.out, ← Nat.add_assoc, ← Hdn.out]; go_num⟩
        · go_wp2
          have e : j = RL c := by omega
          subst e
          go_roundg (n - (c + 1))
          case measure => go_light; omega
          case rel => go_light; exact ⟨c + 1, by omega, rfl, rfl, by go_num, rfl⟩
    · go_wp2
      have e : c = n := by omega
      subst e
      go_ret
      exact ⟨rfl, rfl⟩

end Go.Proofs.Qxb6615834a
