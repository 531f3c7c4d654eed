/-
  Plain: what the second law over View asks.
-/
import Derived.Test.Qxb6615834aFmtZPlain
import Derived.Test.Qxb6615834aFmtPg2
namespace Go.Proofs.Qxb6615834aFmt

/-- The accusations in the other order, each turned round. -/
def accF (acc : List (Nat × Nat)) : List (Nat × Nat) := (acc.map fun p => (p.2, p.1)).reverse

theorem accF_length (acc : List (Nat × Nat)) : (accF acc).length = acc.length := by simp [accF]

theorem mem_accF {acc : List (Nat × Nat)} {x y : Nat} : (x, y) ∈ accF acc ↔ (y, x) ∈ acc := by
  unfold accF
  rw [List.mem_reverse, List.mem_map]
  constructor
  · rintro ⟨p, hp, e⟩
    obtain ⟨p1, p2⟩ := p
    simp only [Prod.mk.injEq] at e
    obtain ⟨rfl, rfl⟩ := e
    exact hp
  · intro h
    exact ⟨(y, x), h, rfl⟩

theorem accF_get (acc : List (Nat × Nat)) {i : Nat} (hi : i < acc.length) : (accF acc)[i]?.getD (0, 0) = ((acc[acc.length - 1 - i]?.getD (0, 0)).2, (acc[acc.length - 1 - i]?.getD (0, 0)).1) := by
  have h1 : acc.length - 1 - i < acc.length := by omega
  unfold accF
  rw [List.getElem?_reverse (by simpa using hi)]
  simp [h1]

theorem accF_ok {acc : List (Nat × Nat)} {n : Nat} (h : ∀ p ∈ acc, p.1 < n ∧ p.2 < n ∧ p.1 ≠ p.2) : ∀ p ∈ accF acc, p.1 < n ∧ p.2 < n ∧ p.1 ≠ p.2 := by
  rintro ⟨x, y⟩ hp
  obtain ⟨h1, h2, h3⟩ := h (y, x) (mem_accF.1 hp)
  exact ⟨h2, h1, fun e => h3 e.symm⟩

/-- The accusations' order and side do not bear on the graph. -/
theorem cutL_flip {acc : List (Nat × Nat)} (N : Nat → Nat → Bool) (h : ∀ p ∈ acc, p.1 ≠ p.2) : cutL N (accF acc) = cutL N acc := by
  have hF : ∀ p ∈ accF acc, p.1 ≠ p.2 := by
    rintro ⟨x, y⟩ hp e
    exact h (y, x) (mem_accF.1 hp) e.symm
  funext x y
  have h1 := cutL_at (accF acc) N x y hF
  have h2 := cutL_at acc N x y h
  rw [mem_accF, mem_accF] at h1
  have h3 : cutL N (accF acc) x y = true ↔ cutL N acc x y = true := by
    rw [h1, h2]
    exact ⟨fun ⟨a, b, c⟩ => ⟨a, c, b⟩, fun ⟨a, b, c⟩ => ⟨a, c, b⟩⟩
  cases e1 : cutL N (accF acc) x y <;> cases e2 : cutL N acc x y
  · rfl
  · rw [e1, e2] at h3; simp at h3
  · rw [e1, e2] at h3; simp at h3
  · rfl

/-! ### Reach both ways -/

theorem Reach.lt {N : Nat → Nat → Bool} {n p x : Nat} (hN : ∀ x y, N x y = true → y < n) (hp : p < n) (h : Reach N p x) : x < n := by
  induction h with
  | here => exact hp
  | step _ e _ => exact hN _ _ e

theorem Reach.trans {N : Nat → Nat → Bool} {p x y : Nat} (h : Reach N p x) (k : Reach N x y) : Reach N p y := by
  induction k with
  | here => exact h
  | step _ e ih => exact .step ih e

theorem Reach.sym {N : Nat → Nat → Bool} {n p x : Nat} (hg : Gr N n) (hp : p < n) (h : Reach N p x) : Reach N x p := by
  induction h with
  | here => exact .here
  | @step a b h1 e ih =>
    have ha := h1.lt hg.lt hp
    have hb := hg.lt _ _ e
    exact (Reach.step .here (by rw [hg.sym b a hb ha]; exact e)).trans ih

/-- q is seen from p just where p is seen from q; and then both see the same. -/
theorem see_both {N : Nat → Nat → Bool} {n p q : Nat} {S T : Nat → Bool} (hg : Gr N n) (hp : p < n) (hq : q < n) (hS : ∀ x, S x = true ↔ x < n ∧ Reach N p x) (hT : ∀ x, T x = true ↔ x < n ∧ Reach N q x) : S q = T p ∧ (S q = true → S = T) := by
  have h1 : S q = true ↔ T p = true := by
    rw [hS, hT]
    exact ⟨fun h => ⟨hp, h.2.sym hg hp⟩, fun h => ⟨hq, h.2.sym hg hq⟩⟩
  refine ⟨?_, fun h => ?_⟩
  · cases e1 : S q <;> cases e2 : T p
    · rfl
    · rw [e1, e2] at h1; simp at h1
    · rw [e1, e2] at h1; simp at h1
    · rfl
  · have hpq := ((hS q).1 h).2
    have hqp := hpq.sym hg hp
    funext x
    have h2 : S x = true ↔ T x = true := by
      rw [hS, hT]
      exact ⟨fun h => ⟨h.1, hqp.trans h.2⟩, fun h => ⟨h.1, hpq.trans h.2⟩⟩
    cases e1 : S x <;> cases e2 : T x
    · rfl
    · rw [e1, e2] at h2; simp at h2
    · rw [e1, e2] at h2; simp at h2
    · rfl

/-! ### The accused pairs, marked -/

def accM (acc : List (Nat × Nat)) : Nat → Nat → Bool := acc.foldl (fun M p => putN (putN M p.1 p.2 true) p.2 p.1 true) (fun _ _ => false)

theorem accM_snoc (acc : List (Nat × Nat)) (p : Nat × Nat) : accM (acc ++ [p]) = putN (putN (accM acc) p.1 p.2 true) p.2 p.1 true := by simp [accM]

theorem accM_fold (acc : List (Nat × Nat)) : ∀ (M : Nat → Nat → Bool) (x y : Nat), acc.foldl (fun M p => putN (putN M p.1 p.2 true) p.2 p.1 true) M x y = true → M x y = true ∨ (x, y) ∈ acc ∨ (y, x) ∈ acc := by
  induction acc with
  | nil => exact fun M x y h => Or.inl h
  | cons p acc ih =>
    intro M x y h
    rcases ih _ x y h with h1 | h1 | h1
    · simp only [putN_at] at h1
      by_cases e1 : x = p.2 ∧ y = p.1
      · refine Or.inr (Or.inr ?_)
        have : (y, x) = p := Prod.ext e1.2 e1.1
        simp [this]
      · rw [if_neg e1] at h1
        by_cases e2 : x = p.1 ∧ y = p.2
        · refine Or.inr (Or.inl ?_)
          have : (x, y) = p := Prod.ext e2.1 e2.2
          simp [this]
        · rw [if_neg e2] at h1
          exact Or.inl h1
    · exact Or.inr (Or.inl (by simp [h1]))
    · exact Or.inr (Or.inr (by simp [h1]))

theorem accM_no {acc : List (Nat × Nat)} {x y : Nat} (h1 : (x, y) ∉ acc) (h2 : (y, x) ∉ acc) : accM acc x y = false := by
  cases e : accM acc x y with
  | false => rfl
  | true =>
    rcases accM_fold acc _ x y e with h | h | h
    · cases h
    · exact absurd h h1
    · exact absurd h h2

end Go.Proofs.Qxb6615834aFmt
