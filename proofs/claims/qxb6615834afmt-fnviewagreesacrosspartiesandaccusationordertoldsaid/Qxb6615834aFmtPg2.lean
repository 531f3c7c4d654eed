/-
  pruneGraph: the accused edges; from the graph to the work list.
-/
import Derived.Test.Qxb6615834aFmtPf5
import Derived.Test.Qxb6615834aFmtListP
namespace Go.Proofs.Qxb6615834aFmt
open Go.RowKit Go.Deep

/-- The edges of acc are cut. -/
def cutL (N : Nat → Nat → Bool) (acc : List (Nat × Nat)) : Nat → Nat → Bool := acc.foldl (fun N p => cutN N p.1 p.2) N

theorem cutL_snoc (N : Nat → Nat → Bool) (acc : List (Nat × Nat)) (p : Nat × Nat) : cutL N (acc ++ [p]) = cutN (cutL N acc) p.1 p.2 := by simp [cutL]

theorem cutL_at : ∀ (acc : List (Nat × Nat)) (N : Nat → Nat → Bool) (x y : Nat), (∀ p ∈ acc, p.1 ≠ p.2) → (cutL N acc x y = true ↔ N x y = true ∧ (x, y) ∉ acc ∧ (y, x) ∉ acc)
  | [], N, x, y, _ => by simp [cutL]
  | p :: acc, N, x, y, h => by
    have e : cutL N (p :: acc) = cutL (cutN N p.1 p.2) acc := rfl
    have hp := h p (by simp)
    rw [e, cutL_at acc _ x y (fun q hq => h q (by simp [hq])), cutN_at N hp]
    have e1 : (x, y) = p ↔ x = p.1 ∧ y = p.2 := by obtain ⟨p1, p2⟩ := p; simp
    have e2 : (y, x) = p ↔ y = p.1 ∧ x = p.2 := by obtain ⟨p1, p2⟩ := p; simp
    rw [List.mem_cons, List.mem_cons, e1, e2]
    by_cases h1 : x = p.1 ∧ y = p.2
    · rw [if_pos (Or.inl h1)]
      simp [h1]
    · by_cases h2 : x = p.2 ∧ y = p.1
      · rw [if_pos (Or.inr h2)]
        simp [h2]
      · rw [if_neg (by rintro (e | e); exact h1 e; exact h2 e)]
        have h3 : ¬ (y = p.1 ∧ x = p.2) := fun e => h2 ⟨e.2, e.1⟩
        simp only [h1, h3, false_or]

theorem cutL_gr {n : Nat} : ∀ (acc : List (Nat × Nat)) (N : Nat → Nat → Bool), (∀ p ∈ acc, p.1 ≠ p.2) → Gr N n → Gr (cutL N acc) n
  | [], _, _, h => h
  | p :: acc, N, hp, h => cutL_gr acc (cutN N p.1 p.2) (fun q hq => hp q (by simp [hq])) (h.cut (hp p (by simp)))

section
variable {w0 W W' : World} {H n m : Nat} {N : Nat → Nat → Bool}

theorem PgAt.still (h : PgAt w0 H n m N W) (T : Turns (fun _ => False) W W') (hs : H ≤ W.heap.size) : PgAt w0 H n m N W' :=
  ⟨h.below.trans (T.below (fun _ _ e => e.elim) hs), T.row h.n3 (fun e => e), T.row h.g7 (fun e => e), T.row h.gG (fun e => e), T.owns h.pv (fun _ _ e => e), h.nb.of_blocks (T.block _ h.nb.top.lt (fun e => e)) (fun p hp => T.block _ (World.rowIs.lt (h.nb.rows p hp)) (fun e => e))⟩

theorem PgAt.cut {x y : Nat} (h : PgAt w0 H n m N W) (hs : H ≤ W.heap.size) (hx : x < n) (hy : y < n) : PgAt w0 H n m (cutN N x y) (cutW W (fun p => H + 5 + p) N x y) := by
  have T : Turns (fun j => j = H + 5 + x ∨ j = H + 5 + y) W (cutW W (fun p => H + 5 + p) N x y) := PS.cutT W N
  exact ⟨h.below.trans (T.below (fun k _ e => by omega) hs), T.row h.n3 (by omega), T.row h.g7 (by omega), T.row h.gG (by omega), T.owns h.pv (fun k hk e => by simp [Value.ownBlock] at hk; omega), h.nb.cut x y hx hy⟩

/-- The row of counts, as it is made. -/
theorem PgAt.ps {K h : Nat} {Cf : Nat → Int} (g : PgAt w0 H n m N W) (h12 : W.rowIs K 3 1 (fun _ => .int .i64 (h : Int))) (cC : W.rowIs (K + 1) 21 (n * n) (fun k => .int .i32 (Cf k))) (c13 : W.rowIs (K + 2) 71 1 (fun _ => .slice (some ⟨K + 1, 0, none⟩) (n * n) (n * n)))
    (f14 : W.rowIs (K + 3) 27 1 (fun _ => .slice none 0 0)) (hs : K + 4 ≤ W.heap.size) : PS w0 H K n m h N Cf (.slice (some ⟨H + 2, 0, none⟩) 0 0) (.slice none 0 0) [] [] W :=
  ⟨g.below, g.g7, g.gG, g.nb, ⟨c13, cC, g.n3, h12, f14, ⟨rfl, Or.inl ⟨rfl, rfl⟩⟩⟩, g.pv, fun g e => by simp [Value.ownBlock] at e; omega, fun g e => by simp [Value.ownBlock], hs⟩

end

/-- pruneGraph's memory where it begins. -/
theorem PgMk.begin {w : World} {H n : Nat} (m : Nat) (hH : w.heap.size = H) (w5 : World) (hw : w5 = ((((w.alloc (.cells #[.int .i64 (n : Int)] 3)).alloc (.cells (madeCells #[.slice none 0 0] n) 57)).alloc (.cells #[] 43)).alloc (.cells #[.slice (some ⟨H + 1, 0, none⟩) n n, .slice (some ⟨H + 2, 0, none⟩) 0 0] 62)).alloc (.cells #[.pointer (some ⟨H + 3, 0, none⟩)] 54)) : PgMk w H n m 0 w5 := by
  subst hw
  have T1 : Turns (fun _ => False) w (w.alloc (.cells #[.int .i64 (n : Int)] 3)) := (Turns.refl _ w).alloc _
  have q1 := rowIs_box w (.int .i64 (n : Int)) 3
  rw [hH] at q1
  generalize hW1 : w.alloc (.cells #[.int .i64 (n : Int)] 3) = W1 at *
  have z1 : W1.heap.size = H + 1 := by rw [← hW1]; simp [hH]
  have T2 : Turns (fun _ => False) W1 (W1.alloc (.cells (madeCells #[.slice none 0 0] n) 57)) := (Turns.refl _ W1).alloc _
  have q2 := World.rowIs_made W1 (.slice none 0 0) n 57
  rw [z1] at q2
  generalize hW2 : W1.alloc (.cells (madeCells #[.slice none 0 0] n) 57) = W2 at *
  have z2 : W2.heap.size = H + 2 := by rw [← hW2]; simp [z1]
  have T3 : Turns (fun _ => False) W2 (W2.alloc (.cells #[] 43)) := (Turns.refl _ W2).alloc _
  have q3 : (W2.alloc (.cells #[] 43)).ownsRow (H + 2) 43 2 (.slice (some ⟨H + 2, 0, none⟩) 0 0) 0 [] := by
    refine ⟨rfl, Or.inr ⟨H + 2, 0, #[], rfl, Nat.le_refl _, ?_, Nat.le_refl _, by unfold maxLen; omega, rfl, rfl⟩⟩
    rw [← z2]
    exact blk_alloc_new _ _
  generalize hW3 : W2.alloc (.cells #[] 43) = W3 at *
  have z3 : W3.heap.size = H + 3 := by rw [← hW3]; simp [z2]
  have T4 : Turns (fun _ => False) W3 (W3.alloc (.cells #[.slice (some ⟨H + 1, 0, none⟩) n n, .slice (some ⟨H + 2, 0, none⟩) 0 0] 62)) := (Turns.refl _ W3).alloc _
  have q4 : GAt (W3.alloc (.cells #[.slice (some ⟨H + 1, 0, none⟩) n n, .slice (some ⟨H + 2, 0, none⟩) 0 0] 62)) (H + 3) (H + 1) n (.slice (some ⟨H + 2, 0, none⟩) 0 0) := by
    unfold GAt
    rw [← z3]
    exact World.rowIs_alloc W3 #[.slice (some ⟨H + 1, 0, none⟩) n n, .slice (some ⟨H + 2, 0, none⟩) 0 0] 62 _ (fun i hi => by
      have : i = 0 ∨ i = 1 := by simp at hi; omega
      rcases this with rfl | rfl <;> rfl)
  generalize hW4 : W3.alloc (.cells #[.slice (some ⟨H + 1, 0, none⟩) n n, .slice (some ⟨H + 2, 0, none⟩) 0 0] 62) = W4 at *
  have z4 : W4.heap.size = H + 4 := by rw [← hW4]; simp [z3]
  have T5 : Turns (fun _ => False) W4 (W4.alloc (.cells #[.pointer (some ⟨H + 3, 0, none⟩)] 54)) := (Turns.refl _ W4).alloc _
  have q5 := rowIs_box W4 (.pointer (some ⟨H + 3, 0, none⟩)) 54
  rw [z4] at q5
  have T := (((T1.trans T2).trans T3).trans T4).trans T5
  refine ⟨T.below (fun _ _ e => e.elim) (by omega), by simp [z4], ((((T2.trans T3).trans T4).trans T5).row q1 (fun e => e)), q5, T5.row q4 (fun e => e), (T4.trans T5).owns q3 (fun _ _ e => e), (((T3.trans T4).trans T5).row q2 (fun e => e)).congr fun p _ => by simp, fun p hp => by omega⟩

end Go.Proofs.Qxb6615834aFmt
