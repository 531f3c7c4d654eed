/-
  Plain: the work list of pruneGraph.
-/
import Derived.Test.Qxb6615834aFmtCore
import Derived.Test.Qxb6615834aFmtLower
namespace Go.Proofs.Qxb6615834aFmt

theorem idx_inj {n x y x' y' : Nat} (hy : y < n) (hy' : y' < n) (h : x * n + y = x' * n + y') : x = x' ∧ y = y' := by
  have hn : 0 < n := by omega
  have h1 : (x * n + y) / n = x := by
    rw [Nat.mul_comm, Nat.mul_add_div hn, Nat.div_eq_of_lt hy, Nat.add_zero]
  have h2 : (x' * n + y') / n = x' := by
    rw [Nat.mul_comm, Nat.mul_add_div hn, Nat.div_eq_of_lt hy', Nat.add_zero]
  rw [h, h2] at h1
  subst h1
  exact ⟨rfl, by omega⟩

/-- lower at one pair. -/
def lowStep (n h : Nat) (st : (Nat → Int) × List (Nat × Nat)) (p : Nat × Nat) : (Nat → Int) × List (Nat × Nat) :=
  (lowC st.1 (p.1 * n + p.2), lowF st.1 h st.2 (p.1 * n + p.2) p.1 p.2)

def lowRun (n h : Nat) (st : (Nat → Int) × List (Nat × Nat)) (ps : List (Nat × Nat)) : (Nat → Int) × List (Nat × Nat) := ps.foldl (lowStep n h) st

theorem lowRun_append (n h : Nat) (st : (Nat → Int) × List (Nat × Nat)) (ps qs : List (Nat × Nat)) : lowRun n h st (ps ++ qs) = lowRun n h (lowRun n h st ps) qs := by simp [lowRun]

theorem lowRun_closed (n h : Nat) : ∀ (ps : List (Nat × Nat)) (Cf : Nat → Int) (fl : List (Nat × Nat)), ps.Nodup → (∀ p ∈ ps, p.2 < n) →
    (∀ x y, y < n → (lowRun n h (Cf, fl) ps).1 (x * n + y) = Cf (x * n + y) - (if (x, y) ∈ ps then 1 else 0)) ∧
    (lowRun n h (Cf, fl) ps).2 = fl ++ ps.filter (fun p => decide (Cf (p.1 * n + p.2) = (h : Int)))
  | [], Cf, fl, _, _ => ⟨fun x y _ => by simp [lowRun], by simp [lowRun]⟩
  | p :: ps, Cf, fl, hnd, hlt => by
    obtain ⟨hnot, hnd'⟩ := List.nodup_cons.1 hnd
    have hp := hlt p (by simp)
    have e : lowRun n h (Cf, fl) (p :: ps) = lowRun n h ((lowStep n h (Cf, fl) p).1, (lowStep n h (Cf, fl) p).2) ps := rfl
    obtain ⟨i1, i2⟩ := lowRun_closed n h ps (lowStep n h (Cf, fl) p).1 (lowStep n h (Cf, fl) p).2 hnd' (fun q hq => hlt q (by simp [hq]))
    rw [e]
    refine ⟨fun x y hy => ?_, ?_⟩
    · rw [i1 x y hy]
      have e1 : (lowStep n h (Cf, fl) p).1 (x * n + y) = if (x, y) = p then Cf (x * n + y) - 1 else Cf (x * n + y) := by
        unfold lowStep lowC
        by_cases e2 : (x, y) = p
        · subst e2
          simp
        · have : ¬ x * n + y = p.1 * n + p.2 := fun e3 => by
            obtain ⟨a, b⟩ := idx_inj hy hp e3
            exact e2 (Prod.ext a b)
          simp [e2, this]
      rw [e1]
      by_cases e2 : (x, y) = p
      · subst e2
        simp [hnot]
      · simp [e2]
    · rw [i2]
      have e3 : ps.filter (fun q => decide ((lowStep n h (Cf, fl) p).1 (q.1 * n + q.2) = (h : Int))) = ps.filter (fun q => decide (Cf (q.1 * n + q.2) = (h : Int))) := by
        refine List.filter_congr fun q hq => ?_
        have hne : ¬ q.1 * n + q.2 = p.1 * n + p.2 := fun e3 => by
          obtain ⟨a, b⟩ := idx_inj (hlt q (by simp [hq])) hp e3
          exact hnot (by rw [← Prod.ext a b]; exact hq)
        simp [lowStep, lowC, hne]
      rw [e3]
      unfold lowStep lowF
      by_cases hc : Cf (p.1 * n + p.2) = (h : Int)
      · simp [hc]
      · simp [hc]

/-- a and b in their order. -/
def ordP (a b : Nat) : Nat × Nat := if a < b then (a, b) else (b, a)

theorem ordP_lt {a b : Nat} (h : a < b) : ordP a b = (a, b) := by simp [ordP, h]
theorem ordP_gt {a b : Nat} (h : b < a) : ordP a b = (b, a) := by
  have : ¬ a < b := by omega
  simp [ordP, this]

theorem ordP_eq {a b x y : Nat} (hxy : x < y) : ordP a b = (x, y) ↔ (a = x ∧ b = y) ∨ (a = y ∧ b = x) := by
  unfold ordP
  split
  · simp only [Prod.mk.injEq]
    omega
  · simp only [Prod.mk.injEq]
    omega

/-- The pairs that lower is called at, c by c. -/
def lowPairs (a b : Nat) (cs : List Nat) : List (Nat × Nat) := cs.flatMap fun c => [ordP a c, ordP b c]

/-! ### The counts when an edge is cut -/

theorem cutN_far (N : Nat → Nat → Bool) {a b x : Nat} (hab : a ≠ b) (hxa : x ≠ a) (hxb : x ≠ b) : cutN N a b x = N x := by
  funext y
  rw [cutN_at N hab, if_neg (by omega)]

theorem cutN_left (N : Nat → Nat → Bool) {a b : Nat} (hab : a ≠ b) : cutN N a b a = putB (N a) b false := by
  funext y
  rw [cutN_at N hab]
  unfold putB
  by_cases e : y = b
  · rw [if_pos (by omega), if_pos e]
  · rw [if_neg (by omega), if_neg e]

theorem cutN_right (N : Nat → Nat → Bool) {a b : Nat} (hab : a ≠ b) : cutN N a b b = putB (N b) a false := by
  funext y
  rw [cutN_at N hab]
  unfold putB
  by_cases e : y = a
  · rw [if_pos (by omega), if_pos e]
  · rw [if_neg (by omega), if_neg e]

theorem both_putB (S T : Nat → Bool) (x : Nat) : both (putB S x false) T = putB (both S T) x false := by
  funext y
  unfold both putB
  by_cases e : y = x <;> simp [e]

theorem comm_far (N : Nat → Nat → Bool) {n a b x y : Nat} (hab : a ≠ b) (hxa : x ≠ a) (hxb : x ≠ b) (hya : y ≠ a) (hyb : y ≠ b) : comm (cutN N a b) n x y = comm N n x y := by
  unfold comm
  rw [cutN_far N hab hxa hxb, cutN_far N hab hya hyb]

theorem comm_left {N : Nat → Nat → Bool} {n a b c : Nat} (hg : Gr N n) (hab : a ≠ b) (hb : b < n) (he : N a b = true) (hc : c < n) (hca : c ≠ a) (hcb : c ≠ b) : comm (cutN N a b) n a c + (if N b c = true then 1 else 0) = comm N n a c := by
  unfold comm
  rw [cutN_left N hab, cutN_far N hab hca hcb, both_putB]
  have h := cnt_putB_false (both (N a) (N c)) b n
  have e : (b < n ∧ both (N a) (N c) b = true) ↔ N b c = true := by
    unfold both
    rw [he, hg.sym c b hc hb]
    simp [hb]
  simp only [e] at h
  exact h

theorem comm_right {N : Nat → Nat → Bool} {n a b c : Nat} (hg : Gr N n) (hab : a ≠ b) (ha : a < n) (hb : b < n) (he : N a b = true) (hc : c < n) (hca : c ≠ a) (hcb : c ≠ b) : comm (cutN N a b) n b c + (if N a c = true then 1 else 0) = comm N n b c := by
  unfold comm
  rw [cutN_right N hab, cutN_far N hab hca hcb, both_putB]
  have h := cnt_putB_false (both (N b) (N c)) a n
  have e : (a < n ∧ both (N b) (N c) a = true) ↔ N a c = true := by
    unfold both
    rw [hg.sym b a hb ha, he, hg.sym c a hc ha]
    simp [ha]
  simp only [e] at h
  exact h

end Go.Proofs.Qxb6615834aFmt
