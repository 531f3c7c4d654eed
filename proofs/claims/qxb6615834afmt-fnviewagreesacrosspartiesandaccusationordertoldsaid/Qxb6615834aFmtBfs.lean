/-
  Plain: breadth first from p marks just the parties with a path to p.
-/
import Derived.Test.Qxb6615834aFmtIter
namespace Go.Proofs.Qxb6615834aFmt

/-- A path from p to x. -/
inductive Reach (N : Nat → Nat → Bool) (p : Nat) : Nat → Prop
  | here : Reach N p p
  | step {x y : Nat} : Reach N p x → N x y = true → Reach N p y

def putI (d : Nat → Int) (x : Nat) (v : Int) : Nat → Int := fun y => if y = x then v else d y

/-- One neighbour r of q is looked at. -/
def bstep (q : Nat) (s : (Nat → Int) × List Nat) (r : Nat) : (Nat → Int) × List Nat := if s.1 r < 0 then (putI s.1 r (s.1 q + 1), s.2 ++ [r]) else s

def brun (q : Nat) (s : (Nat → Int) × List Nat) (l : List Nat) : (Nat → Int) × List Nat := l.foldl (bstep q) s

theorem brun_snoc (q : Nat) (s : (Nat → Int) × List Nat) (l : List Nat) (r : Nat) : brun q s (l ++ [r]) = bstep q (brun q s l) r := by simp [brun]

def cntNeg (d : Nat → Int) (n : Nat) : Nat := cnt (fun x => decide (d x < 0)) n

theorem cnt_put (S : Nat → Bool) (x : Nat) (hx : S x = true) : ∀ n, cnt (putB S x false) n + (if x < n then 1 else 0) = cnt S n
  | 0 => rfl
  | n + 1 => by
    have ih := cnt_put S x hx n
    rw [cnt, cnt]
    by_cases e : n = x
    · subst e
      simp [putB, hx] at ih ⊢
      exact ih
    · by_cases hlt : x < n
      · have h2 : x < n + 1 := by omega
        simp only [hlt, h2, if_true] at ih ⊢
        simp only [putB, e, if_false]
        omega
      · have h2 : ¬ x < n + 1 := by omega
        simp only [hlt, h2, if_false] at ih ⊢
        simp only [putB, e, if_false]
        omega

theorem cntNeg_put {d : Nat → Int} {x n : Nat} {v : Int} (hx : x < n) (hd : d x < 0) (hv : 0 ≤ v) : cntNeg (putI d x v) n + 1 = cntNeg d n := by
  have h := cnt_put (fun y => decide (d y < 0)) x (by simpa using hd) n
  rw [if_pos hx] at h
  unfold cntNeg
  rw [← h]
  congr 1
  refine cnt_congr n fun j _ => ?_
  unfold putI putB
  by_cases e : j = x
  · simp [e]
    exact hv
  · simp [e]

/-- What holds all along. -/
structure BInv (n : Nat) (d : Nat → Int) (ys : List Nat) (k : Nat) : Prop where
  low : ∀ x, x < n → -1 ≤ d x
  high : ∀ x, x < n → d x + (cntNeg d n : Int) < (n : Int)
  queue : ∀ x ∈ ys, x < n ∧ 0 ≤ d x
  count : cntNeg d n + ys.length = k

theorem BInv.step {n : Nat} {d : Nat → Int} {ys : List Nat} {k q r : Nat} (h : BInv n d ys k) (hq : q < n) (hdq : 0 ≤ d q) (hr : r < n) : BInv n (bstep q (d, ys) r).1 (bstep q (d, ys) r).2 k := by
  unfold bstep
  by_cases hneg : d r < 0
  · simp only [hneg, if_true]
    have hc := cntNeg_put (v := d q + 1) hr hneg (by omega)
    refine ⟨fun x hx => ?_, fun x hx => ?_, fun x hx => ?_, ?_⟩
    · unfold putI
      have := h.low x hx
      split <;> omega
    · have h1 := h.high x hx
      have h2 := h.high q hq
      generalize cntNeg (putI d r (d q + 1)) n = c at hc ⊢
      unfold putI
      split <;> omega
    · rw [List.mem_append] at hx
      rcases hx with hx | hx
      · obtain ⟨h1, h2⟩ := h.queue x hx
        refine ⟨h1, ?_⟩
        unfold putI
        split <;> omega
      · have : x = r := by simpa using hx
        subst this
        exact ⟨hr, by simp [putI]; omega⟩
    · have := h.count
      simp
      omega
  · simp only [hneg, if_false]
    exact h

theorem bstep_keeps (q r : Nat) (s : (Nat → Int) × List Nat) (x : Nat) (h : 0 ≤ s.1 x) : (bstep q s r).1 x = s.1 x := by
  unfold bstep
  by_cases hneg : s.1 r < 0
  · simp only [hneg, if_true]
    unfold putI
    split
    · rename_i e
      subst e
      omega
    · rfl
  · simp only [hneg, if_false]

theorem brun_all {n q : Nat} (hq : q < n) : ∀ (l : List Nat) {d : Nat → Int} {ys : List Nat} {k : Nat}, BInv n d ys k → 0 ≤ d q → (∀ r ∈ l, r < n) →
    BInv n (brun q (d, ys) l).1 (brun q (d, ys) l).2 k ∧ (∀ x, 0 ≤ d x → (brun q (d, ys) l).1 x = d x) ∧ (∀ x, 0 ≤ (brun q (d, ys) l).1 x ↔ 0 ≤ d x ∨ x ∈ l) ∧ (∀ x, x ∈ (brun q (d, ys) l).2 ↔ x ∈ ys ∨ (x ∈ l ∧ d x < 0)) ∧ ys <+: (brun q (d, ys) l).2
  | [], d, ys, k, h, _, _ => ⟨h, fun _ _ => rfl, fun x => by simp [brun], fun x => by simp [brun], List.prefix_rfl⟩
  | r :: l, d, ys, k, h, hdq, hl => by
    have hr : r < n := hl r (by simp)
    have h1 := h.step hq hdq hr
    have hk1 := bstep_keeps q r (d, ys)
    have e : brun q (d, ys) (r :: l) = brun q ((bstep q (d, ys) r).1, (bstep q (d, ys) r).2) l := rfl
    obtain ⟨a1, a2, a3, a4, a5⟩ := brun_all hq l h1 (by rw [hk1 q hdq]; exact hdq) (fun x hx => hl x (by simp [hx]))
    rw [e]
    refine ⟨a1, fun x hx => by rw [a2 x (by rw [hk1 x hx]; exact hx), hk1 x hx], fun x => ?_, fun x => ?_, List.IsPrefix.trans ?_ a5⟩
    · rw [a3]
      unfold bstep
      by_cases hneg : d r < 0
      · simp only [hneg, if_true, putI]
        by_cases e2 : x = r
        · subst e2
          simp
          omega
        · simp [e2]
      · simp only [hneg, if_false]
        by_cases e2 : x = r
        · subst e2
          simp
          omega
        · simp [e2]
    · rw [a4]
      unfold bstep
      by_cases hneg : d r < 0
      · simp only [hneg, if_true, putI, List.mem_append, List.mem_cons, List.not_mem_nil, or_false]
        by_cases e2 : x = r
        · subst e2
          simp [hneg]
        · simp [e2]
      · simp only [hneg, if_false, List.mem_cons]
        by_cases e2 : x = r
        · subst e2
          simp [hneg]
        · simp [e2]
    · unfold bstep
      by_cases hneg : d r < 0
      · simp only [hneg, if_true]
        exact List.prefix_append _ _
      · simp only [hneg, if_false]
        exact List.prefix_rfl

/-- The search's invariant at the loop's head. -/
structure BSearch (N : Nat → Nat → Bool) (n p : Nat) (d : Nat → Int) (ys : List Nat) (k : Nat) : Prop extends BInv n d ys k where
  start : 0 ≤ d p
  sound : ∀ x, x < n → 0 ≤ d x → Reach N p x
  closed : ∀ x, x < n → 0 ≤ d x → x ∈ ys ∨ ∀ y, N x y = true → 0 ≤ d y

theorem BSearch.round {N : Nat → Nat → Bool} {n p q k : Nat} {d : Nat → Int} {ys : List Nat} (h : BSearch N n p d (q :: ys) (k + 1)) (hN : ∀ x y, N x y = true → y < n) (l : List Nat) (hl : ∀ y, y ∈ l ↔ N q y = true) :
    BSearch N n p (brun q (d, q :: ys) l).1 (brun q (d, q :: ys) l).2.tail k ∧ (brun q (d, q :: ys) l).2 = q :: (brun q (d, q :: ys) l).2.tail := by
  obtain ⟨hq, hdq⟩ := h.queue q (by simp)
  obtain ⟨a1, a2, a3, a4, a5⟩ := brun_all hq l h.toBInv hdq (fun r hr => hN q r ((hl r).1 hr))
  generalize hst : brun q (d, q :: ys) l = st at *
  obtain ⟨d', ys'⟩ := st
  simp only at *
  obtain ⟨z, hz⟩ := a5
  have hys : ys' = q :: (ys ++ z) := by rw [← hz]; rfl
  subst hys
  refine ⟨⟨⟨a1.low, a1.high, fun x hx => a1.queue x (by simp at hx ⊢; exact Or.inr hx), ?_⟩, (a3 p).2 (Or.inl h.start), fun x hx hd => ?_, fun x hx hd => ?_⟩, rfl⟩
  · have := a1.count
    simp at this ⊢
    omega
  · rcases (a3 x).1 hd with h1 | h1
    · exact h.sound x hx h1
    · exact (h.sound q hq hdq).step ((hl x).1 h1)
  · rcases (a3 x).1 hd with h1 | h1
    · rcases h.closed x hx h1 with h2 | h2
      · rcases List.mem_cons.1 h2 with rfl | h2
        · exact Or.inr fun y hy => (a3 y).2 (Or.inr ((hl y).2 hy))
        · exact Or.inl (by simp [h2])
      · exact Or.inr fun y hy => (a3 y).2 (Or.inl (h2 y hy))
    · by_cases h2 : d x < 0
      · have := (a4 x).2 (Or.inr ⟨h1, h2⟩)
        simp only [List.mem_cons, List.tail_cons] at this ⊢
        rcases this with rfl | h3
        · omega
        · exact Or.inl h3
      · rcases h.closed x hx (by omega) with h3 | h3
        · rcases List.mem_cons.1 h3 with rfl | h3
          · exact Or.inr fun y hy => (a3 y).2 (Or.inr ((hl y).2 hy))
          · exact Or.inl (by simp [h3])
        · exact Or.inr fun y hy => (a3 y).2 (Or.inl (h3 y hy))

theorem BSearch.ends {N : Nat → Nat → Bool} {n p k : Nat} {d : Nat → Int} (h : BSearch N n p d [] k) (hp : p < n) (hN : ∀ x y, N x y = true → y < n) (x : Nat) (hx : x < n) : 0 ≤ d x ↔ Reach N p x := by
  refine ⟨h.sound x hx, fun hr => ?_⟩
  have : ∀ y, Reach N p y → y < n ∧ 0 ≤ d y := fun y hy => by
    induction hy with
    | here => exact ⟨hp, h.start⟩
    | step hz hzy ih =>
      refine ⟨hN _ _ hzy, ?_⟩
      rcases h.closed _ ih.1 ih.2 with h1 | h1
      · cases h1
      · exact h1 _ hzy
  exact (this x hr).2

end Go.Proofs.Qxb6615834aFmt
