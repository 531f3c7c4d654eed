/-
  Plain: the graph that pruning leaves is one, whatever the order.
-/
import Derived.Test.Qxb6615834aFmtIter
import Derived.Test.Qxb6615834aFmtGraph
namespace Go.Proofs.Qxb6615834aFmt

/-- How many parties x and y have in common. -/
def comm (N : Nat → Nat → Bool) (n x y : Nat) : Nat := cnt (both (N x) (N y)) n

/-- A graph on the parties below n, each joined to itself. -/
structure Gr (N : Nat → Nat → Bool) (n : Nat) : Prop where
  sym : ∀ x y, x < n → y < n → N x y = N y x
  refl : ∀ x, x < n → N x x = true
  lt : ∀ x y, N x y = true → y < n

def Sub (K N : Nat → Nat → Bool) (n : Nat) : Prop := ∀ x y, x < n → y < n → K x y = true → N x y = true

def Stable (N : Nat → Nat → Bool) (n h : Nat) : Prop := ∀ x y, x < y → y < n → N x y = true → h ≤ comm N n x y

/-- N is the largest stable graph within G. -/
structure Core (N G : Nat → Nat → Bool) (n h : Nat) : Prop where
  gr : Gr N n
  sub : Sub N G n
  stable : Stable N n h
  most : ∀ K, Gr K n → Sub K G n → Stable K n h → Sub K N n

theorem Core.unique {N N' G : Nat → Nat → Bool} {n h : Nat} (a : Core N G n h) (b : Core N' G n h) (x y : Nat) (hx : x < n) (hy : y < n) : N x y = N' x y := by
  have h1 := b.most N a.gr a.sub a.stable x y hx hy
  have h2 := a.most N' b.gr b.sub b.stable x y hx hy
  cases e : N x y
  · cases e' : N' x y
    · rfl
    · rw [h2 e'] at e
      cases e
  · rw [h1 e]

theorem cnt_mono {S T : Nat → Bool} : ∀ n, (∀ x, x < n → S x = true → T x = true) → cnt S n ≤ cnt T n
  | 0, _ => Nat.le_refl _
  | n + 1, h => by
    have ih := cnt_mono n (fun x hx => h x (by omega))
    rw [cnt, cnt]
    by_cases hs : S n = true
    · rw [if_pos hs, if_pos (h n (by omega) hs)]
      omega
    · rw [if_neg hs]
      split <;> omega

theorem comm_mono {K N : Nat → Nat → Bool} {n x y : Nat} (h : Sub K N n) (hx : x < n) (hy : y < n) : comm K n x y ≤ comm N n x y :=
  cnt_mono n fun z hz => by
    unfold both
    simp only [Bool.and_eq_true]
    exact fun ⟨a, b⟩ => ⟨h x z hx hz a, h y z hy hz b⟩

/-! ### One edge is cut -/

theorem cutN_at (N : Nat → Nat → Bool) {a b : Nat} (hab : a ≠ b) (x y : Nat) : cutN N a b x y = if (x = a ∧ y = b) ∨ (x = b ∧ y = a) then false else N x y := by
  unfold cutN putN putB
  by_cases h1 : x = b
  · subst h1
    have : ¬ x = a := fun e => hab e.symm
    by_cases h2 : y = a
    · simp [h2]
    · simp [h2, this]
  · by_cases h3 : x = a
    · subst h3
      by_cases h4 : y = b
      · simp [h4, h1]
      · simp [h4, h1]
    · simp [h1, h3]

theorem Gr.cut {N : Nat → Nat → Bool} {n a b : Nat} (h : Gr N n) (hab : a ≠ b) : Gr (cutN N a b) n := by
  refine ⟨fun x y hx hy => ?_, fun x hx => ?_, fun x y hxy => ?_⟩
  · rw [cutN_at N hab, cutN_at N hab, h.sym x y hx hy]
    by_cases h1 : (x = a ∧ y = b) ∨ (x = b ∧ y = a)
    · rw [if_pos h1, if_pos (by omega)]
    · rw [if_neg h1, if_neg (by omega)]
  · rw [cutN_at N hab, if_neg (by omega)]
    exact h.refl x hx
  · rw [cutN_at N hab] at hxy
    by_cases h1 : (x = a ∧ y = b) ∨ (x = b ∧ y = a)
    · rw [if_pos h1] at hxy
      cases hxy
    · rw [if_neg h1] at hxy
      exact h.lt x y hxy

theorem Sub.cut {N : Nat → Nat → Bool} {n a b : Nat} (hab : a ≠ b) : Sub (cutN N a b) N n := fun x y _ _ h => by
  rw [cutN_at N hab] at h
  by_cases h1 : (x = a ∧ y = b) ∨ (x = b ∧ y = a)
  · rw [if_pos h1] at h
    cases h
  · rwa [if_neg h1] at h

theorem Sub.trans {K N M : Nat → Nat → Bool} {n : Nat} (h : Sub K N n) (k : Sub N M n) : Sub K M n := fun x y hx hy e => k x y hx hy (h x y hx hy e)

/-- A stable graph within N does without an edge that fails. -/
theorem Sub.past {K N : Nat → Nat → Bool} {n h a b : Nat} (hs : Sub K N n) (hK : Gr K n) (hst : Stable K n h) (hab : a < b) (hb : b < n) (hf : comm N n a b < h) : Sub K (cutN N a b) n := fun x y hx hy e => by
  rw [cutN_at N (by omega)]
  have hno : K a b ≠ true := fun e' => by
    have h1 := hst a b hab hb e'
    have h2 := comm_mono hs (show a < n by omega) hb
    omega
  rw [if_neg, hs x y hx hy e]
  rintro (⟨rfl, rfl⟩ | ⟨rfl, rfl⟩)
  · exact hno e
  · rw [hK.sym _ _ hx hy] at e
    exact hno e

/-! ### What the counts become -/

theorem cnt_putB_false (S : Nat → Bool) (x n : Nat) : cnt (putB S x false) n + (if x < n ∧ S x = true then 1 else 0) = cnt S n := by
  by_cases hx : S x = true
  · have : ∀ n, cnt (putB S x false) n + (if x < n then 1 else 0) = cnt S n := fun n => by
      induction n with
      | zero => rfl
      | succ n ih =>
        rw [cnt, cnt]
        by_cases e : n = x
        · subst e
          simp [putB, hx] at ih ⊢
          exact ih
        · by_cases hlt : x < n
          · have h2 : x < n + 1 := by omega
            simp only [hlt, h2, if_true] at ih ⊢
            simp only [putB, e, if_false]
            omega
          · have h2 : ¬ x < n + 1 := by omega
            simp only [hlt, h2, if_false] at ih ⊢
            simp only [putB, e, if_false]
            omega
    have h := this n
    simpa [hx] using h
  · have e : putB S x false = S := by
      funext y
      unfold putB
      by_cases e : y = x
      · subst e
        simpa using hx
      · simp [e]
    rw [e, if_neg (fun h => hx h.2)]
    rfl

theorem comm_sym (N : Nat → Nat → Bool) (n x y : Nat) : comm N n x y = comm N n y x := by
  unfold comm
  refine cnt_congr n fun z _ => ?_
  unfold both
  exact Bool.and_comm _ _

end Go.Proofs.Qxb6615834aFmt
