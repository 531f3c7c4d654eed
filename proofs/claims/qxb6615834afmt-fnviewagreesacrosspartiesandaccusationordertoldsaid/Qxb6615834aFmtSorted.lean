/-
  slices.SortFunc over the pruned pairs: what it leaves.
-/
import Derived.Test.Qxb6615834aFmtSort
namespace Go.Proofs.Qxb6615834aFmt
open Go.Shelf Go.RowKit Go.Lib Go.Sort Go.Deep

/-- From block g's first cell on lie the pairs of l. -/
def PairsAt (w : World) (g : Nat) (l : List (Nat × Nat)) : Prop := ∀ i, i < l.length → w.cell? ⟨g, i * 2, none⟩ = some (.int .i64 (((l[i]?.getD (0, 0)).1 : Int) + 1)) ∧ w.cell? ⟨g, i * 2 + 1, none⟩ = some (.int .i64 (((l[i]?.getD (0, 0)).2 : Int) + 1))

theorem pairCells_get : ∀ (l : List (Nat × Nat)) (t : Nat), t < l.length * 2 → (pairCells l)[t]? = some ((encP (l[t / 2]?.getD (0, 0)))[t % 2]!)
  | [], t, h => by simp at h
  | p :: l, 0, _ => by simp [pairCells, encP]
  | p :: l, 1, _ => by simp [pairCells, encP]
  | p :: l, t + 2, h => by
    have e : pairCells (p :: l) = [.int .i64 ((p.1 : Int) + 1), .int .i64 ((p.2 : Int) + 1)] ++ pairCells l := rfl
    have ih := pairCells_get l t (by simp at h; omega)
    have e1 : (t + 2) / 2 = t / 2 + 1 := by omega
    have e2 : (t + 2) % 2 = t % 2 := by omega
    rw [e, List.getElem?_append_right (by simp)]
    simp only [List.length_cons, List.length_nil, Nat.reduceAdd, Nat.add_sub_cancel, e1, e2]
    rw [ih]
    simp

/-- The pairs in their order. -/
def sortP (l : List (Nat × Nat)) : List (Nat × Nat) := l.mergeSort fun x y => !(ltOf cmpP y x)

theorem holds_of_owns {w : World} {base g cap : Nat} {l : List (Nat × Nat)} (h : w.ownsRow base 43 2 (.slice (some ⟨g, 0, none⟩) l.length cap) l.length (pairCells l)) : HoldsK encP 2 w g 0 l.toArray := by
  intro j hj
  have hj' : j < l.length * 2 := by simpa using hj
  have h2 : j / 2 < l.length := by omega
  refine ⟨?_, h.frozenAt _⟩
  rw [Nat.zero_add, h.cellAt j hj', pairCells_get l j hj', get_flatK _ _ _ j (by simpa using hj')]
  simp [h2]

theorem pairs_of_holds {w : World} {g : Nat} {l : List (Nat × Nat)} (h : HoldsK encP 2 w g 0 l.toArray) : PairsAt w g l := by
  intro i hi
  have a := (h (i * 2) (by simp; omega)).1
  have b := (h (i * 2 + 1) (by simp; omega)).1
  rw [get_flatK _ _ _ _ (by simp; omega)] at a b
  have e1 : i * 2 / 2 = i := by omega
  have e2 : i * 2 % 2 = 0 := by omega
  have e3 : (i * 2 + 1) / 2 = i := by omega
  have e4 : (i * 2 + 1) % 2 = 1 := by omega
  rw [e1, e2, Nat.zero_add] at a
  rw [e3, e4, Nat.zero_add] at b
  simpa [encP, hi] using And.intro a b

theorem sortWorld_turns (w : World) (g n : Nat) (d : Array (Nat × Nat)) (os : Array Obj) : Turns (fun j => j = g) w (sortWorldK encP 2 w g 0 n d os) := by
  refine ⟨rfl, rfl, rfl, ?_, fun k hk hne => ?_⟩
  · simp [sortWorldK, grow, putRowK, putRow, mapBlock, Sort.ahead]
  · have hne' : ¬ g = k := fun e => hne e.symm
    simp only [sortWorldK, grow, putRowK, putRow, mapBlock, Sort.ahead]
    rw [Array.getElem?_append_left (by simpa using hk), Array.getElem?_modify, if_neg hne']

theorem sort_any (base g cap : Nat) (l : List (Nat × Nat)) (w : World) (h : w.ownsRow base 43 2 (.slice (some ⟨g, 0, none⟩) l.length cap) l.length (pairCells l)) (hl : l.length ≤ 100000000) :
    Calls Tryf.prog 38 #[.slice (some ⟨g, 0, none⟩) l.length cap, .func (.func 39) #[] #[]] w fun e w' => e = .returned (.tuple #[]) ∧ PairsAt w' g (sortP l) ∧ Turns (fun j => j = g) w w' := by
  have eg : ∀ args w, (callFunc 39 args).run Tryf.prog w = .ok (.enter 39 args) w := enters_of Tryf.func39 (by kernel_rfl) rfl
  have hH := holds_of_owns h
  have hblk : g < w.heap.size := (h.lt g rfl).2
  have hcon := AnyQ.slices_SortFunc_total Tryf.sortPair 2 Tryf.isAgg43 Tryf.sizeOf43 encP (fun _ => rfl) (fun x v hv => by simp [encP] at hv; rcases hv with rfl | rfl <;> rfl) cmpP swoP 39 #[] g 0 cap l.toArray w eg (cmpLays39 g 0 l.toArray.size w) hH hblk (by simp; omega) totalP
  change Calls Tryf.prog 38 _ _ _ at hcon
  refine hcon.mono ?_
  rintro e w' ⟨rfl, n, os, rfl⟩
  refine ⟨rfl, pairs_of_holds (holdsK_sortWorldK encP 2 w g 0 n l.toArray (sortP l).toArray os hblk hH (by simp [sortP])), sortWorld_turns _ _ _ _ _⟩

end Go.Proofs.Qxb6615834aFmt
