/-
  prunedGraph.reachable, partySet.split: the walks.
-/
import Derived.Test.Qxb6615834aFmtDist
namespace Go.Proofs.Qxb6615834aFmt
open Go.RowKit Go.Deep

/-- The set of the x below j with 0 ≤ d x. -/
def seenB (d : Nat → Int) (j : Nat) : Nat → Bool := fun x => decide (x < j) && decide (0 ≤ d x)

theorem seenB_succ {d : Nat → Int} {j : Nat} (h : 0 ≤ d j) : putB (seenB d j) j true = seenB d (j + 1) := by
  funext x
  unfold putB seenB
  by_cases e : x = j
  · subst e
    simp [h]
  · have : (x < j + 1) = (x < j) := by simp; omega
    simp only [e, if_false, this]

theorem seenB_skip {d : Nat → Int} {j : Nat} (h : ¬ 0 ≤ d j) : seenB d j = seenB d (j + 1) := by
  funext x
  unfold seenB
  by_cases e : x = j
  · subst e
    simp [h]
  · have : (x < j + 1) = (x < j) := by simp; omega
    simp only [this]

set_option maxHeartbeats 2000000 in
theorem reachable_any (bG bN n m p : Nat) (B : Nat → Nat) (N : Nat → Nat → Bool) (pv : Value) (w : World) (hg : GAt w bG bN n pv) (hn : NbAt w bN n m B N) (hm : m ≤ 16) (hnm : (n + 63) / 64 = m) (ht : TabAt w) (hp : p < n) (hN : ∀ x y, N x y = true → y < n) :
    Calls Tryf.prog 24 #[.pointer (some ⟨bG, 0, none⟩), .int .i64 ((p : Int) + 1)] w fun e w' => ∃ S : Nat → Bool, e = .returned (.slice (some ⟨w.heap.size, 0, none⟩) m m) ∧ SetAt w' w.heap.size m S ∧ (∀ x, S x = true ↔ x < n ∧ Reach N p x) ∧ Below w.heap.size w w' := by
  obtain ⟨H, hH⟩ : ∃ H, w.heap.size = H := ⟨_, rfl⟩
  have c1 := hg.nb
  have k1 := newPartySet_any n m (by omega) hnm w
  have B1 : Below H w (madeSet w m) := (Below.refl H w).alloc (by omega) _
  have s1 : (madeSet w m).heap.size = H + 1 := by simp [madeSet, hH]
  have r1 := madeSet_at w m
  rw [hH] at r1
  have hGlt : bG < H := by rw [← hH]; exact World.rowIs.lt hg
  have hNlt : bN < H := by rw [← hH]; exact hn.top.lt
  have h0lt : 0 < H := by rw [← hH]; have := block_lt_of_cell (ht 0 (by omega)); simpa using this
  have hBlt : ∀ x, x < n → B x < H := fun x hx => by rw [← hH]; exact World.rowIs.lt (hn.rows x hx)
  have k2 := distances_any bG bN n m p B N pv (madeSet w m) (World.rowIs.of_block hg (B1.block _ hGlt)) (hn.of_blocks (B1.block _ hNlt) (fun x hx => B1.block _ (hBlt x hx))) hm (by omega) (fun j hj => (B1.cell (p := ⟨0, j, none⟩) h0lt).trans (ht j hj)) hp hN
  rw [s1] at k2
  rw [hH] at k1 ⊢
  go_enter Tryf.func24, Tryf.ntmps24
  go_wp2_with fail
  refine k1.mono ?_
  rintro e w1 ⟨rfl, rfl⟩
  generalize madeSet w m = V at *
  go_wp2_with fail
  refine k2.mono ?_
  rintro e V2 ⟨d, rfl, hd, hR, hB2⟩
  have r2 : SetAt V2 H m (seenB d 0) := (SetAt.congr (World.rowIs.of_block r1 (hB2.block _ (by omega))) fun x _ => by simp [seenB])
  have B2 : Below H w V2 := B1.trans (hB2.mono (by omega))
  go_wp2_with fail
  go_loopg [18] n (fun g x wr => ∃ j : Nat, j ≤ n ∧ g = n - j ∧ x = .int .i64 j ∧ Below H w wr ∧ wr.rowIs (H + 1) 3 n (fun i => .int .i64 (d i)) ∧ SetAt wr H m (seenB d j))
  case atStart => exact ⟨0, Nat.zero_le _, rfl, rfl, B2, hd, r2⟩
  case round =>
    obtain ⟨j, hj, rfl, rfl, hB, hdw, hS⟩ := hrel
    by_cases hjn : j < n
    · have hz : (j : Int) < (n : Int) := by omega
      have c2 := hdw.cell hjn
      have k3 := add_any H m j (seenB d j) (by omega) hm wr hS
      by_cases hpos : 0 ≤ d j
      · go_wp2_with (go_at_call 32; refine k3.mono ?_; rintro e w' ⟨rfl, rfl⟩)
        go_roundg (n - (j + 1))
        case measure => omega
        case rel =>
          have hS' := hS.put j true
          rw [seenB_succ hpos] at hS' ⊢
          exact ⟨j + 1, hjn, rfl, by go_num, (hB.setCell (p := ⟨H, j / 64, none⟩) (Nat.le_refl _) _).drew, (hdw.setOther (a := ⟨H, j / 64, none⟩) (by simp) _).drew, hS'⟩
      · go_wp2_with fail
        go_roundg (n - (j + 1))
        case measure => omega
        case rel => exact ⟨j + 1, hjn, rfl, by go_num, hB, hdw, by rw [← seenB_skip (d := d) (j := j) (by omega)]; exact hS⟩
    · obtain rfl : j = n := by omega
      go_wp2_with fail
      go_ret
      refine ⟨seenB d j, rfl, hS, fun x => ?_, hB⟩
      unfold seenB
      simp only [Bool.and_eq_true, decide_eq_true_eq]
      exact ⟨fun h => ⟨h.1, (hR x h.1).1 h.2⟩, fun h => ⟨h.1, (hR x h.1).2 h.2⟩⟩

/-- The parties of xs as cells. -/
def partyCells (xs : List Nat) : List Value := xs.map fun x : Nat => Value.int .i64 ((x : Int) + 1)

def notB (S : Nat → Bool) : Nat → Bool := fun x => !S x

/-- What stands at the head of split's loop. -/
structure SplitAt (w : World) (H : Nat) (S : Nat → Bool) (j : Nat) (v4 v5 : Value) (wr : World) : Prop where
  below : Below H w wr
  i4 : ∃ g c, v4 = .slice (some ⟨g, 0, none⟩) (upE S j).length c
  i5 : ∃ g c, v5 = .slice (some ⟨g, 0, none⟩) (upE (notB S) j).length c
  o4 : wr.ownsRow H 3 1 v4 (upE S j).length (partyCells (upE S j))
  o5 : wr.ownsRow H 3 1 v5 (upE (notB S) j).length (partyCells (upE (notB S) j))
  apart : v4.ownBlock ≠ v5.ownBlock

theorem SplitAt.start {w : World} {H : Nat} (S : Nat → Bool) (hH : w.heap.size = H) : SplitAt w H S 0 (.slice (some ⟨H, 0, none⟩) 0 0) (.slice (some ⟨H + 1, 0, none⟩) 0 0) ((w.alloc (.cells #[] 3)).alloc (.cells #[] 3)) := by
  refine ⟨((Below.refl H w).alloc (by omega) _).alloc (by simp; omega) _, ⟨H, 0, rfl⟩, ⟨H + 1, 0, rfl⟩, ⟨rfl, Or.inr ⟨H, 0, #[], rfl, Nat.le_refl _, ?_, Nat.le_refl _, Nat.zero_le _, rfl, rfl⟩⟩, ⟨rfl, Or.inr ⟨H + 1, 0, #[], rfl, by omega, ?_, Nat.le_refl _, Nat.zero_le _, rfl, rfl⟩⟩, by simp [Value.ownBlock]⟩
  · rw [blk_alloc_lt _ _ _ (by simp; omega), ← hH]
    exact blk_alloc_new _ _
  · have := blk_alloc_new (w.alloc (.cells #[] 3)) (.cells #[] 3)
    rw [World.size_alloc, hH] at this
    exact this

theorem SplitAt.push4 {w wr w1 : World} {H j g4 c4 g' cap' : Nat} {S : Nat → Bool} {v5 : Value} {o : Obj} (h : SplitAt w H S j (.slice (some ⟨g4, 0, none⟩) (upE S j).length c4) v5 wr) (hs : S j = true)
    (hown : w1.ownsRow H 3 1 (.slice (some ⟨g', 0, none⟩) ((upE S j).length + 1) cap') ((upE S j).length + 1) (partyCells (upE S j) ++ [.int .i64 ((j : Int) + 1)])) (hg : (wr.drew.alloc o).grownBy w1 (Value.slice (some ⟨g4, 0, none⟩) (upE S j).length c4).ownBlock)
    (hat : (Value.slice (some ⟨g', 0, none⟩) ((upE S j).length + 1) cap').ownBlock = (Value.slice (some ⟨g4, 0, none⟩) (upE S j).length c4).ownBlock ∨ (Value.slice (some ⟨g', 0, none⟩) ((upE S j).length + 1) cap').ownBlock = some (wr.drew.alloc o).heap.size) :
    SplitAt w H S (j + 1) (.slice (some ⟨g', 0, none⟩) ((upE S j).length + 1) cap') v5 w1 := by
  have hB := h.below
  have hg4 := (h.o4.lt g4 rfl)
  have e4 : upE S (j + 1) = upE S j ++ [j] := by rw [upE_succ, if_pos hs]
  have e5 : upE (notB S) (j + 1) = upE (notB S) j := by rw [upE_succ, if_neg (by simp [notB, hs])]
  have hlt5 : ∀ k, v5.ownBlock = some k → k < wr.heap.size := fun k hk => (h.o5.lt k hk).2
  refine ⟨(hB.drew.alloc (by have := hB.size; simp; omega) o).grown hg (by simp; omega) (fun k hk => by simp [Value.ownBlock] at hk; omega), ⟨g', cap', by rw [e4]; simp⟩, by rw [e5]; exact h.i5, by rw [e4]; simpa [partyCells] using hown, ?_, ?_⟩
  · rw [e5]
    exact (h.o5.drew.alloc o).kept hg (Or.inr fun e => h.apart e.symm)
  · rcases hat with e | e
    · rw [e]
      exact h.apart
    · rw [e]
      intro e2
      have := hlt5 _ e2.symm
      simp at this
      omega

theorem SplitAt.push5 {w wr w1 : World} {H j g5 c5 g' cap' : Nat} {S : Nat → Bool} {v4 : Value} {o : Obj} (h : SplitAt w H S j v4 (.slice (some ⟨g5, 0, none⟩) (upE (notB S) j).length c5) wr) (hs : S j = false)
    (hown : w1.ownsRow H 3 1 (.slice (some ⟨g', 0, none⟩) ((upE (notB S) j).length + 1) cap') ((upE (notB S) j).length + 1) (partyCells (upE (notB S) j) ++ [.int .i64 ((j : Int) + 1)])) (hg : (wr.drew.alloc o).grownBy w1 (Value.slice (some ⟨g5, 0, none⟩) (upE (notB S) j).length c5).ownBlock)
    (hat : (Value.slice (some ⟨g', 0, none⟩) ((upE (notB S) j).length + 1) cap').ownBlock = (Value.slice (some ⟨g5, 0, none⟩) (upE (notB S) j).length c5).ownBlock ∨ (Value.slice (some ⟨g', 0, none⟩) ((upE (notB S) j).length + 1) cap').ownBlock = some (wr.drew.alloc o).heap.size) :
    SplitAt w H S (j + 1) v4 (.slice (some ⟨g', 0, none⟩) ((upE (notB S) j).length + 1) cap') w1 := by
  have hB := h.below
  have hg5 := (h.o5.lt g5 rfl)
  have e4 : upE S (j + 1) = upE S j := by rw [upE_succ, if_neg (by simp [hs])]
  have e5 : upE (notB S) (j + 1) = upE (notB S) j ++ [j] := by rw [upE_succ, if_pos (by simp [notB, hs])]
  have hlt4 : ∀ k, v4.ownBlock = some k → k < wr.heap.size := fun k hk => (h.o4.lt k hk).2
  refine ⟨(hB.drew.alloc (by have := hB.size; simp; omega) o).grown hg (by simp; omega) (fun k hk => by simp [Value.ownBlock] at hk; omega), by rw [e4]; exact h.i4, ⟨g', cap', by rw [e5]; simp⟩, ?_, by rw [e5]; simpa [partyCells] using hown, ?_⟩
  · rw [e4]
    exact (h.o4.drew.alloc o).kept hg (Or.inr h.apart)
  · rcases hat with e | e
    · rw [e]
      exact h.apart
    · rw [e]
      intro e2
      have := hlt4 _ e2
      simp at this
      omega

set_option maxRecDepth 100000 in
set_option maxHeartbeats 2000000 in
theorem split_any (b n m : Nat) (S : Nat → Bool) (w : World) (hS : SetAt w b m S) (hm : m ≤ 16) (hnm : n ≤ 64 * m) :
    Calls Tryf.prog 26 #[.slice (some ⟨b, 0, none⟩) m m, .int .i64 (n : Int)] w fun e w' => ∃ v4 v5, e = .returned (.tuple #[v4, v5]) ∧ SplitAt w w.heap.size S n v4 v5 w' := by
  obtain ⟨H, hH⟩ : ∃ H, w.heap.size = H := ⟨_, rfl⟩
  obtain ⟨i0, hi, hz0, hz1, hz2⟩ := info_parts Tryf.info3
  have hbl : b < H := by rw [← hH]; exact World.rowIs.lt hS
  rw [hH]
  go_enter Tryf.func26, Tryf.ntmps26
  go_wp2_with fail
  go_loopg [4, 5, 6] n (fun g x4 x5 x wr => ∃ j : Nat, j ≤ n ∧ g = n - j ∧ x = .int .i64 ((j : Int) + 1) ∧ SplitAt w H S j x4 x5 wr)
  case atStart => exact ⟨0, Nat.zero_le _, rfl, rfl, SplitAt.start S hH⟩
  case round =>
    obtain ⟨j, hj, rfl, rfl, h⟩ := hrel
    by_cases hjn : j < n
    · have hz : (j : Int) + 1 ≤ (n : Int) := by omega
      have k1 := has_any b m j S (by omega) hm wr (World.rowIs.of_block hS (h.below.block _ hbl))
      obtain ⟨g4, c4, rfl⟩ := h.i4
      obtain ⟨g5, c5, rfl⟩ := h.i5
      have l4 := upE_length_le S j
      have l5 := upE_length_le (notB S) j
      have hsz := h.below.size
      cases hs : S j
      · rw [hs] at k1
        go_wp2_with (first | (go_at_call 25; refine k1.mono ?_; rintro e w' ⟨rfl, rfl⟩) | (at_builtin; refine wpList_append_own_at _ rfl _ _ 42 rfl H 3 i0 (.int .i64 0) 1 8 Tryf.underlying42 hi hz0 hz1 hz2 rfl (by decide) _ _ _ rfl (h.o5.drew.alloc _) ⟨wr.heap.size, 0, none⟩ 1 1 [.int .i64 ((j : Int) + 1)] rfl rfl (cell_one_new _ _ _) (by simp [Value.oneCell']) (by unfold maxLen; omega) (by omega) (by simp; omega) ?_; intro v' w1 hown' hgrow _ hat; obtain ⟨g', cap', rfl⟩ := ownsRow_succ hown'))
        go_roundg (n - (j + 1))
        case measure => omega
        case rel => exact ⟨j + 1, hjn, rfl, by go_num, h.push5 hs hown' hgrow hat⟩
      · rw [hs] at k1
        go_wp2_with (first | (go_at_call 25; refine k1.mono ?_; rintro e w' ⟨rfl, rfl⟩) | (at_builtin; refine wpList_append_own_at _ rfl _ _ 42 rfl H 3 i0 (.int .i64 0) 1 8 Tryf.underlying42 hi hz0 hz1 hz2 rfl (by decide) _ _ _ rfl (h.o4.drew.alloc _) ⟨wr.heap.size, 0, none⟩ 1 1 [.int .i64 ((j : Int) + 1)] rfl rfl (cell_one_new _ _ _) (by simp [Value.oneCell']) (by unfold maxLen; omega) (by omega) (by simp; omega) ?_; intro v' w1 hown' hgrow _ hat; obtain ⟨g', cap', rfl⟩ := ownsRow_succ hown'))
        go_roundg (n - (j + 1))
        case measure => omega
        case rel => exact ⟨j + 1, hjn, rfl, by go_num, h.push4 hs hown' hgrow hat⟩
    · obtain rfl : j = n := by omega
      go_wp2_with fail
      go_ret2
      exact ⟨_, _, rfl, h⟩

end Go.Proofs.Qxb6615834aFmt
