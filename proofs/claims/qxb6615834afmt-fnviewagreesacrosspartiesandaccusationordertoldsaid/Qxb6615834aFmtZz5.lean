/-
  zzContains, zzPartition, zzPairsOrdered: the walks.
-/
import Derived.Test.Qxb6615834aFmtView
namespace Go.Proofs.Qxb6615834aFmt
open Go.RowKit Go.Deep

/-- x is among xs. -/
def hasB (xs : List Nat) (x : Nat) : Bool := xs.contains x

theorem contains_at {xs : List Nat} {x : Nat} : (hasB xs x = true) ↔ ∃ i, i < xs.length ∧ xs[i]?.getD 0 = x := by
  unfold hasB
  rw [List.contains_iff_mem]
  constructor
  · intro h
    obtain ⟨i, hi, rfl⟩ := List.getElem_of_mem h
    exact ⟨i, hi, by simp [hi]⟩
  · rintro ⟨i, hi, rfl⟩
    have : xs[i]?.getD 0 = xs[i] := by simp [hi]
    rw [this]
    exact List.getElem_mem hi

set_option maxHeartbeats 1000000 in
theorem contains_any (g c x : Nat) (xs : List Nat) (w : World) (h : IntsAt w g xs) (hl : xs.length ≤ 1048576) :
    Calls Tryf.prog 18 #[.slice (some ⟨g, 0, none⟩) xs.length c, .int .i64 ((x : Int) + 1)] w fun e w' => e = .returned (.bool (hasB xs x)) ∧ w' = w := by
  go_enter Tryf.func18, Tryf.ntmps18
  go_wp2_with fail
  go_loopg [8] xs.length (fun g x' wr => ∃ j : Nat, j ≤ xs.length ∧ g = xs.length - j ∧ x' = .int .i64 (j : Int) ∧ (∀ i, i < j → xs[i]?.getD 0 ≠ x) ∧ wr = w)
  case atStart => exact ⟨0, Nat.zero_le _, rfl, rfl, fun i hi => by omega, rfl⟩
  case round =>
    obtain ⟨j, hj, rfl, rfl, hno, rfl⟩ := hrel
    by_cases hjl : j < xs.length
    · have hz : (j : Int) < (xs.length : Int) := by omega
      have d1 := h j hjl
      by_cases hx : xs[j]?.getD 0 = x
      · have hc : Kept (hasB xs x = true) := contains_at.2 ⟨j, hjl, hx⟩
        rw [hx] at d1
        clear hx hno
        go_wp2_with fail
        go_ret
        unfold Kept at hc
        exact ⟨by rw [hc]; rfl, rfl⟩
      · have hn2 : Kept (∀ i, i < j + 1 → xs[i]?.getD 0 ≠ x) := fun i hi => by
          by_cases e : i = j
          · subst e; exact hx
          · exact hno i (by omega)
        generalize xs[j]?.getD 0 = v at d1 hx
        have hvz : ¬ ((v : Int) + 1 = (x : Int) + 1) := by omega
        clear hno
        go_wp2_with fail
        go_roundg (xs.length - (j + 1))
        case measure => omega
        case rel => exact ⟨j + 1, by omega, rfl, by go_num, hn2, rfl⟩
    · have hz : ¬ ((j : Int) < (xs.length : Int)) := by omega
      have hc : Kept (hasB xs x = false) := by
        unfold Kept
        cases e : hasB xs x with
        | false => rfl
        | true =>
          obtain ⟨i, hi, hv⟩ := contains_at.1 e
          exact absurd hv (hno i (by omega))
      clear hno
      go_wp2_with fail
      go_ret
      unfold Kept at hc
      exact ⟨by rw [hc]; rfl, rfl⟩

/-! ### A list and the rest -/

theorem upE_split (S : Nat → Bool) {k n : Nat} (h : k ≤ n) : ∃ r, upE S n = upE S k ++ r ∧ ∀ y ∈ r, k ≤ y := by
  induction n with
  | zero =>
    have : k = 0 := by omega
    subst this
    exact ⟨[], by simp, fun y hy => by cases hy⟩
  | succ n ih =>
    by_cases e : k = n + 1
    · subst e
      exact ⟨[], by simp, fun y hy => by cases hy⟩
    · obtain ⟨r, h1, h2⟩ := ih (by omega)
      rw [upE_succ]
      split
      · refine ⟨r ++ [n], by rw [h1, List.append_assoc], fun y hy => ?_⟩
        rcases List.mem_append.1 hy with h3 | h3
        · exact h2 y h3
        · have : y = n := by simpa using h3
          omega
      · exact ⟨r, h1, h2⟩

theorem upE_here {S : Nat → Bool} {k n : Nat} (hk : k < n) (hS : S k = true) : (upE S k).length < (upE S n).length ∧ (upE S n)[(upE S k).length]?.getD 0 = k := by
  obtain ⟨r, h1, _⟩ := upE_split S (show k + 1 ≤ n by omega)
  rw [upE_succ, if_pos hS] at h1
  rw [h1]
  simp

theorem upE_past {S : Nat → Bool} {k n : Nat} (hk : k < n) (hS : S k = false) (hl : (upE S k).length < (upE S n).length) : k < (upE S n)[(upE S k).length]?.getD 0 := by
  obtain ⟨r, h1, h2⟩ := upE_split S (show k + 1 ≤ n by omega)
  have h3 : upE S (k + 1) = upE S k := by rw [upE_succ]; simp [hS]
  rw [h3] at h1
  rw [h1] at hl ⊢
  cases r with
  | nil => simp at hl
  | cons y r =>
    have := h2 y (by simp)
    simp
    omega

set_option maxRecDepth 100000 in
set_option maxHeartbeats 2000000 in
theorem partition_any (g1 g2 c1 c2 n : Nat) (S : Nat → Bool) (w : World) (h1 : IntsAt w g1 (upE S n)) (h2 : IntsAt w g2 (upE (notB S) n)) (hn : n ≤ 1024) :
    Calls Tryf.prog 17 #[.slice (some ⟨g1, 0, none⟩) (upE S n).length c1, .slice (some ⟨g2, 0, none⟩) (upE (notB S) n).length c2, .int .i64 (n : Int)] w fun e w' => e = .returned (.bool true) ∧ w' = w := by
  have l1 := upE_length_le S n
  have l2 := upE_length_le (notB S) n
  go_enter Tryf.func17, Tryf.ntmps17
  go_wp2_with fail
  go_loopg [7, 8, 9] n (fun g x7 x8 x9 wr => ∃ k : Nat, k ≤ n ∧ g = n - k ∧ x7 = .int .i64 ((upE S k).length : Int) ∧ x8 = .int .i64 ((upE (notB S) k).length : Int) ∧ x9 = .int .i64 ((k : Int) + 1) ∧ wr = w)
  case atStart => exact ⟨0, Nat.zero_le _, rfl, rfl, rfl, rfl, rfl⟩
  case round =>
    obtain ⟨k, hk, rfl, rfl, rfl, rfl, rfl⟩ := hrel
    by_cases hkn : k < n
    · have hz : (k : Int) + 1 ≤ (n : Int) := by omega
      have l3 := upE_length_le S k
      have l4 := upE_length_le (notB S) k
      cases hS : S k with
      | true =>
        obtain ⟨a1, a2⟩ := upE_here hkn hS
        have d1 := h1 _ a1
        rw [a2] at d1
        have e1 : (upE S (k + 1)).length = (upE S k).length + 1 := by rw [upE_succ, if_pos hS]; simp
        have e2 : (upE (notB S) (k + 1)).length = (upE (notB S) k).length := by rw [upE_succ, if_neg (by simp [notB, hS])]
        have r1 : Kept (Value.int .i64 (((upE S k).length : Int) + 1) = .int .i64 ((upE S (k + 1)).length : Int)) := by unfold Kept; rw [e1]; simp
        have r2 : Kept (Value.int .i64 ((upE (notB S) k).length : Int) = .int .i64 ((upE (notB S) (k + 1)).length : Int)) := by unfold Kept; rw [e2]
        have z1 : ((upE S k).length : Int) < ((upE S n).length : Int) := by omega
        clear hS a2 e1 e2
        generalize (upE S k).length = u at *
        generalize (upE (notB S) k).length = v at *
        go_wp2_with fail
        go_roundg (n - (k + 1))
        case measure => omega
        case rel => exact ⟨k + 1, by omega, rfl, r1, r2, by go_num, rfl⟩
      | false =>
        have hT : notB S k = true := by simp [notB, hS]
        obtain ⟨a1, a2⟩ := upE_here hkn hT
        have d2 := h2 _ a1
        rw [a2] at d2
        have e1 : (upE S (k + 1)).length = (upE S k).length := by rw [upE_succ]; simp [hS]
        have e2 : (upE (notB S) (k + 1)).length = (upE (notB S) k).length + 1 := by rw [upE_succ, if_pos hT]; simp
        have r1 : Kept (Value.int .i64 ((upE S k).length : Int) = .int .i64 ((upE S (k + 1)).length : Int)) := by unfold Kept; rw [e1]
        have r2 : Kept (Value.int .i64 (((upE (notB S) k).length : Int) + 1) = .int .i64 ((upE (notB S) (k + 1)).length : Int)) := by unfold Kept; rw [e2]; simp
        have z2 : ((upE (notB S) k).length : Int) < ((upE (notB S) n).length : Int) := by omega
        by_cases hlt : (upE S k).length < (upE S n).length
        · have d1 := h1 _ hlt
          have hpast := upE_past hkn hS hlt
          generalize (upE S n)[(upE S k).length]?.getD 0 = y at d1 hpast
          have hyz : ¬ ((y : Int) + 1 = (k : Int) + 1) := by omega
          have z1 : ((upE S k).length : Int) < ((upE S n).length : Int) := by omega
          clear hS a2 e1 e2 hT
          generalize (upE S k).length = u at *
          generalize (upE (notB S) k).length = v at *
          go_wp2_with fail
          go_roundg (n - (k + 1))
          case measure => omega
          case rel => exact ⟨k + 1, by omega, rfl, r1, r2, by go_num, rfl⟩
        · have z1 : ¬ (((upE S k).length : Int) < ((upE S n).length : Int)) := by omega
          clear hS a2 e1 e2 hT hlt
          generalize (upE S k).length = u at *
          generalize (upE (notB S) k).length = v at *
          go_wp2_with fail
          go_roundg (n - (k + 1))
          case measure => omega
          case rel => exact ⟨k + 1, by omega, rfl, r1, r2, by go_num, rfl⟩
    · have hz : ¬ ((k : Int) + 1 ≤ (n : Int)) := by omega
      obtain rfl : k = n := by omega
      go_wp2_with fail
      go_ret
      exact ⟨rfl, rfl⟩

set_option maxRecDepth 100000 in
set_option maxHeartbeats 2000000 in
theorem ordered_any (g c n : Nat) (l : List (Nat × Nat)) (w : World) (h : PairsAt w g l) (hst : l.Pairwise fun x y => ltP x y = true) (hok : ∀ p ∈ l, p.1 < p.2 ∧ p.2 < n) (hl : l.length ≤ 1048576) :
    Calls Tryf.prog 19 #[.slice (some ⟨g, 0, none⟩) l.length c, .int .i64 (n : Int)] w fun e w' => e = .returned (.bool true) ∧ w' = w := by
  have hok' : ∀ i, i < l.length → (l[i]?.getD (0, 0)).1 < (l[i]?.getD (0, 0)).2 ∧ (l[i]?.getD (0, 0)).2 < n := fun i hi => by
    have := hok (l[i]) (List.getElem_mem hi)
    simpa [hi] using this
  have hst' : ∀ i, i + 1 < l.length → (l[i]?.getD (0, 0)).1 < (l[i + 1]?.getD (0, 0)).1 ∨ ((l[i]?.getD (0, 0)).1 = (l[i + 1]?.getD (0, 0)).1 ∧ (l[i]?.getD (0, 0)).2 < (l[i + 1]?.getD (0, 0)).2) := fun i hi => by
    have := List.pairwise_iff_getElem.1 hst i (i + 1) (by omega) hi (by omega)
    have e1 : l[i]?.getD (0, 0) = l[i] := by simp [show i < l.length by omega]
    have e2 : l[i + 1]?.getD (0, 0) = l[i + 1] := by simp [hi]
    rw [e1, e2]
    simpa [ltP] using this
  clear hst hok
  go_enter Tryf.func19, Tryf.ntmps19
  go_wp2_with fail
  go_loopg [12] l.length (fun g x wr => ∃ j : Nat, j ≤ l.length ∧ g = l.length - j ∧ x = .int .i64 (j : Int) ∧ wr = w)
  case atStart => exact ⟨0, Nat.zero_le _, rfl, rfl, rfl⟩
  case round =>
    obtain ⟨j, hj, rfl, rfl, rfl⟩ := hrel
    by_cases hjl : j < l.length
    · have hz : (j : Int) < (l.length : Int) := by omega
      obtain ⟨d1, d2⟩ := h j hjl
      obtain ⟨o1, o2⟩ := hok' j hjl
      cases j with
      | zero =>
        generalize l[0]?.getD (0, 0) = v at d1 d2 o1 o2
        obtain ⟨v1, v2⟩ := v
        simp only at d1 d2 o1 o2
        have z1 : ¬ ((v1 : Int) + 1 < 1) := by omega
        have z2 : ¬ ((v2 : Int) + 1 ≤ (v1 : Int) + 1) := by omega
        have z3 : ¬ ((n : Int) < (v2 : Int) + 1) := by omega
        go_wp2_with fail
        go_roundg (l.length - 1)
        case measure => omega
        case rel => exact ⟨1, by omega, rfl, by go_num, rfl⟩
      | succ j =>
        obtain ⟨d3, d4⟩ := h j (by omega)
        have ho := hst' j hjl
        generalize l[j + 1]?.getD (0, 0) = v at d1 d2 o1 o2 ho
        generalize l[j]?.getD (0, 0) = u at d3 d4 ho
        obtain ⟨v1, v2⟩ := v
        obtain ⟨u1, u2⟩ := u
        simp only at d1 d2 o1 o2 d3 d4 ho
        have z1 : ¬ ((v1 : Int) + 1 < 1) := by omega
        have z2 : ¬ ((v2 : Int) + 1 ≤ (v1 : Int) + 1) := by omega
        have z3 : ¬ ((n : Int) < (v2 : Int) + 1) := by omega
        have z4 : ¬ ((v1 : Int) + 1 < (u1 : Int) + 1) := by omega
        have z0 : (0 : Int) < (j : Int) + 1 := by omega
        have z7 : (j : Int) < (l.length : Int) := by omega
        rcases ho with ho | ⟨ho1, ho2⟩
        · have z5 : ¬ ((u1 : Int) + 1 = (v1 : Int) + 1) := by omega
          clear ho
          go_wp2_with fail
          go_roundg (l.length - (j + 2))
          case measure => omega
          case rel => exact ⟨j + 2, by omega, rfl, by go_num, rfl⟩
        · have z6 : ¬ ((v2 : Int) + 1 ≤ (u2 : Int) + 1) := by omega
          subst ho1
          go_wp2_with fail
          go_roundg (l.length - (j + 2))
          case measure => omega
          case rel => exact ⟨j + 2, by omega, rfl, by go_num, rfl⟩
    · have hz : ¬ ((j : Int) < (l.length : Int)) := by omega
      go_wp2_with fail
      go_ret
      exact ⟨rfl, rfl⟩

end Go.Proofs.Qxb6615834aFmt
