/-
  Plain: the pruned pairs in their order are the lexicographic listing of the marks.
-/
import Derived.Test.Qxb6615834aFmtSorted
namespace Go.Proofs.Qxb6615834aFmt
open Go.Shelf Go.RowKit Go.Lib Go.Sort Go.Deep

/-- Party a's pairs (a, b), a < b < k. -/
def lexRow (P : Nat → Nat → Bool) (a k : Nat) : List (Nat × Nat) := ((List.range k).filter fun b => decide (a < b) && P a b).map fun b => (a, b)
/-- The pairs of the parties below a. -/
def lexL (P : Nat → Nat → Bool) (n a : Nat) : List (Nat × Nat) := (List.range a).flatMap fun x => lexRow P x n

theorem lexRow_succ (P : Nat → Nat → Bool) (a k : Nat) : lexRow P a (k + 1) = if a < k ∧ P a k = true then lexRow P a k ++ [(a, k)] else lexRow P a k := by
  unfold lexRow
  rw [List.range_succ, List.filter_append]
  by_cases h : a < k ∧ P a k = true
  · rw [if_pos h]
    simp [h.1, h.2]
  · rw [if_neg h]
    have : (decide (a < k) && P a k) = false := by
      cases e : (decide (a < k) && P a k)
      · rfl
      · rw [Bool.and_eq_true] at e
        exact absurd ⟨by simpa using e.1, e.2⟩ h
    simp [this]

theorem lexRow_zero (P : Nat → Nat → Bool) (a : Nat) : lexRow P a (a + 1) = [] := by
  unfold lexRow
  rw [List.map_eq_nil_iff, List.filter_eq_nil_iff]
  intro b hb
  have : ¬ a < b := by have := List.mem_range.1 hb; omega
  simp [this]

theorem lexL_succ (P : Nat → Nat → Bool) (n a : Nat) : lexL P n (a + 1) = lexL P n a ++ lexRow P a n := by
  unfold lexL
  rw [List.range_succ, List.flatMap_append]
  simp

theorem mem_lexRow {P : Nat → Nat → Bool} {a k : Nat} {p : Nat × Nat} : p ∈ lexRow P a k ↔ p.1 = a ∧ a < p.2 ∧ p.2 < k ∧ P a p.2 = true := by
  unfold lexRow
  rw [List.mem_map]
  constructor
  · rintro ⟨b, hb, rfl⟩
    rw [List.mem_filter, List.mem_range, Bool.and_eq_true] at hb
    exact ⟨rfl, by simpa using hb.2.1, hb.1, hb.2.2⟩
  · rintro ⟨h1, h2, h3, h4⟩
    refine ⟨p.2, ?_, by rw [← h1]⟩
    rw [List.mem_filter, List.mem_range, Bool.and_eq_true]
    exact ⟨h3, by simpa using h2, h4⟩

theorem mem_lexL {P : Nat → Nat → Bool} {n a : Nat} {p : Nat × Nat} : p ∈ lexL P n a ↔ p.1 < a ∧ p.1 < p.2 ∧ p.2 < n ∧ P p.1 p.2 = true := by
  unfold lexL
  rw [List.mem_flatMap]
  constructor
  · rintro ⟨x, hx, hp⟩
    obtain ⟨h1, h2, h3, h4⟩ := mem_lexRow.1 hp
    subst h1
    exact ⟨List.mem_range.1 hx, h2, h3, h4⟩
  · rintro ⟨h1, h2, h3, h4⟩
    exact ⟨p.1, List.mem_range.2 h1, mem_lexRow.2 ⟨rfl, h2, h3, h4⟩⟩

theorem lexRow_strict (P : Nat → Nat → Bool) (a k : Nat) : (lexRow P a k).Pairwise fun x y => ltP x y = true := by
  unfold lexRow
  rw [List.pairwise_map]
  refine List.Pairwise.imp ?_ (List.Pairwise.filter _ List.pairwise_lt_range)
  intro x y h
  simp [ltP, h]

theorem lexL_strict (P : Nat → Nat → Bool) (n a : Nat) : (lexL P n a).Pairwise fun x y => ltP x y = true := by
  unfold lexL
  rw [List.pairwise_flatMap]
  refine ⟨fun x _ => lexRow_strict P x n, List.Pairwise.imp ?_ List.pairwise_lt_range⟩
  intro x y h p hp q hq
  have h1 := (mem_lexRow.1 hp).1
  have h2 := (mem_lexRow.1 hq).1
  simp only [ltP, decide_eq_true_eq]
  omega

theorem strict_eq : ∀ (l l' : List (Nat × Nat)), l.Pairwise (fun x y => ltP x y = true) → l'.Pairwise (fun x y => ltP x y = true) → (∀ p, p ∈ l ↔ p ∈ l') → l = l'
  | [], [], _, _, _ => rfl
  | [], y :: l', _, _, h => by have := (h y).2 (by simp); cases this
  | x :: l, [], _, _, h => by have := (h x).1 (by simp); cases this
  | x :: l, y :: l', h1, h2, h => by
    rw [List.pairwise_cons] at h1 h2
    have hirr : ∀ z : Nat × Nat, ltP z z = true → False := fun z hz => by simp [ltP] at hz
    have e : x = y := by
      rcases List.mem_cons.1 ((h x).1 (by simp)) with e | e
      · exact e
      · rcases List.mem_cons.1 ((h y).2 (by simp)) with e2 | e2
        · exact e2.symm
        · have a1 := h2.1 x e
          have a2 := h1.1 y e2
          simp only [ltP, decide_eq_true_eq] at a1 a2
          omega
    subst e
    rw [strict_eq l l' h1.2 h2.2 fun p => ?_]
    constructor
    · intro hp
      rcases List.mem_cons.1 ((h p).1 (by simp [hp])) with e | e
      · subst e
        exact (hirr p (h1.1 p hp)).elim
      · exact e
    · intro hp
      rcases List.mem_cons.1 ((h p).2 (by simp [hp])) with e | e
      · subst e
        exact (hirr p (h2.1 p hp)).elim
      · exact e

theorem sortP_strict {l : List (Nat × Nat)} (hnd : l.Nodup) : (sortP l).Pairwise fun x y => ltP x y = true := by
  have h1 : (sortP l).Pairwise fun x y => (!(ltOf cmpP y x)) = true := List.pairwise_mergeSort (fun a b c => by
    rw [ltOf_cmpP, ltOf_cmpP, ltOf_cmpP]
    simp only [ltP, Bool.not_eq_true', decide_eq_false_iff_not]
    omega) (fun a b => by
    rw [ltOf_cmpP, ltOf_cmpP]
    simp only [ltP, Bool.or_eq_true, Bool.not_eq_true', decide_eq_false_iff_not]
    omega) l
  have h2 : (sortP l).Nodup := (List.mergeSort_perm l _).nodup_iff.2 hnd
  refine (List.pairwise_and_iff.2 ⟨h1, h2⟩).imp ?_
  rintro x y ⟨a, b⟩
  cases e : ltP x y
  · refine absurd (totalP x y (by rw [ltOf_cmpP]; exact e) ?_) b
    simpa using a
  · rfl

theorem mem_sortP {l : List (Nat × Nat)} {p : Nat × Nat} : p ∈ sortP l ↔ p ∈ l := (List.mergeSort_perm l _).mem_iff

/-- The pairs in their order, listed by their marks. -/
theorem sortP_lex {l : List (Nat × Nat)} {P : Nat → Nat → Bool} {n : Nat} (hnd : l.Nodup) (hok : ∀ p ∈ l, p.1 < p.2 ∧ p.2 < n) (hP : ∀ x y, x < y → y < n → ((x, y) ∈ l ↔ P x y = true)) : sortP l = lexL P n n :=
  strict_eq _ _ (sortP_strict hnd) (lexL_strict P n n) fun p => by
    rw [mem_sortP, mem_lexL]
    constructor
    · intro hp
      obtain ⟨h1, h2⟩ := hok p hp
      exact ⟨by omega, h1, h2, (hP p.1 p.2 h1 h2).1 hp⟩
    · rintro ⟨_, h1, h2, h3⟩
      exact (hP p.1 p.2 h1 h2).2 h3

end Go.Proofs.Qxb6615834aFmt
