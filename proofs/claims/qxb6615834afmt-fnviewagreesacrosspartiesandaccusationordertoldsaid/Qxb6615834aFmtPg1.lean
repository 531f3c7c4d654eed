/-
  pruneGraph, its first loops: the complete graph; the accused edges cut. What lies in memory.
-/
import Derived.Test.Qxb6615834aFmtReach
import Derived.Test.Qxb6615834aFmtIni
namespace Go.Proofs.Qxb6615834aFmt
open Go.RowKit Go.Deep

/-- The complete graph on the parties below n. -/
def fullN (n : Nat) : Nat → Nat → Bool := fun _ y => decide (y < n)

/-- What lies where pruneGraph has made its graph: H: n's box; H + 1: the neighbours; H + 2: an empty row; H + 3: the graph; H + 4: its box; H + 5 + p: party p's set. -/
structure PgAt (w0 : World) (H n m : Nat) (N : Nat → Nat → Bool) (W : World) : Prop where
  below : Below H w0 W
  n3 : W.rowIs H 3 1 (fun _ => .int .i64 (n : Int))
  g7 : W.rowIs (H + 4) 54 1 (fun _ => .pointer (some ⟨H + 3, 0, none⟩))
  gG : GAt W (H + 3) (H + 1) n (.slice (some ⟨H + 2, 0, none⟩) 0 0)
  pv : W.ownsRow (H + 2) 43 2 (.slice (some ⟨H + 2, 0, none⟩) 0 0) 0 []
  nb : NbAt W (H + 1) n m (fun p => H + 5 + p) N

/-- .. while the sets are being made: those of the parties below j are full, party j's holds those below i. -/
structure PgMk (w0 : World) (H n m j : Nat) (W : World) : Prop where
  below : Below H w0 W
  size : W.heap.size = H + 5 + j
  n3 : W.rowIs H 3 1 (fun _ => .int .i64 (n : Int))
  g7 : W.rowIs (H + 4) 54 1 (fun _ => .pointer (some ⟨H + 3, 0, none⟩))
  gG : GAt W (H + 3) (H + 1) n (.slice (some ⟨H + 2, 0, none⟩) 0 0)
  pv : W.ownsRow (H + 2) 43 2 (.slice (some ⟨H + 2, 0, none⟩) 0 0) 0 []
  top : W.rowIs (H + 1) 57 n (fun p => if p < j then .slice (some ⟨H + 5 + p, 0, none⟩) m m else .slice none 0 0)
  rows : ∀ p, p < j → SetAt W (H + 5 + p) m (fun y => decide (y < n))

/-- .. and party j's set holds those below i. -/
structure PgIn (w0 : World) (H n m j i : Nat) (W : World) : Prop where
  below : Below H w0 W
  size : W.heap.size = H + 5 + j + 1
  n3 : W.rowIs H 3 1 (fun _ => .int .i64 (n : Int))
  g7 : W.rowIs (H + 4) 54 1 (fun _ => .pointer (some ⟨H + 3, 0, none⟩))
  gG : GAt W (H + 3) (H + 1) n (.slice (some ⟨H + 2, 0, none⟩) 0 0)
  pv : W.ownsRow (H + 2) 43 2 (.slice (some ⟨H + 2, 0, none⟩) 0 0) 0 []
  top : W.rowIs (H + 1) 57 n (fun p => if p < j + 1 then .slice (some ⟨H + 5 + p, 0, none⟩) m m else .slice none 0 0)
  rows : ∀ p, p < j → SetAt W (H + 5 + p) m (fun y => decide (y < n))
  row : SetAt W (H + 5 + j) m (fun y => decide (y < i))

theorem PgMk.made {w0 W : World} {H n m j : Nat} (h : PgMk w0 H n m j W) : PgIn w0 H n m j 0 ((madeSet W.drew m).setCell ⟨H + 1, j, none⟩ (.slice (some ⟨W.heap.size, 0, none⟩) m m)) := by
  have T : Turns (fun _ => False) W (madeSet W.drew m) := ((Turns.refl _ W).drew).alloc _
  have T2 : Turns (fun k => k = H + 1) W ((madeSet W.drew m).setCell ⟨H + 1, j, none⟩ (.slice (some ⟨W.heap.size, 0, none⟩) m m)) := (T.mono (M := fun k => k = H + 1) fun _ _ e => e.elim).setCell (a := ⟨H + 1, j, none⟩) rfl _
  have hsz := h.size
  have r := madeSet_at W.drew m
  refine ⟨h.below.trans (T2.below (fun k _ e => by omega) (by omega)), by simp [madeSet, hsz], T2.row h.n3 (by omega), T2.row h.g7 (by omega), T2.row h.gG (by omega), T2.owns h.pv (fun k hk e => by simp [Value.ownBlock] at hk; omega), ?_, fun p hp => T2.row (h.rows p hp) (by omega), ?_⟩
  · refine ((T.row h.top (fun e => e)).set j _).congr fun p hp => ?_
    by_cases e : p = j
    · subst e
      simp [hsz]
    · have e2 : (p < j + 1) = (p < j) := by simp; omega
      simp only [e2, if_neg e]
  · have r2 : SetAt (madeSet W.drew m) (H + 5 + j) m (fun _ => false) := by
      have e : W.drew.heap.size = H + 5 + j := hsz
      rw [e] at r
      exact r
    exact SetAt.congr (World.rowIs.setOther r2 (by simp; omega) _) fun x _ => by simp

theorem PgIn.add {w0 W : World} {H n m j i : Nat} (h : PgIn w0 H n m j i W) : PgIn w0 H n m j (i + 1) (wrote W (H + 5 + j) i (putB (fun y => decide (y < i)) i true)).drew := by
  have T : Turns (fun k => k = H + 5 + j) W (wrote W (H + 5 + j) i (putB (fun y => decide (y < i)) i true)).drew := ((Turns.refl (fun k => k = H + 5 + j) W).setCell (a := ⟨H + 5 + j, i / 64, none⟩) rfl _).drew
  have hsz := h.size
  refine ⟨h.below.trans (T.below (fun k _ e => by omega) (by omega)), by simpa [wrote] using hsz, T.row h.n3 (by omega), T.row h.g7 (by omega), T.row h.gG (by omega), T.owns h.pv (fun k hk e => by simp [Value.ownBlock] at hk; omega), T.row h.top (by omega), fun p hp => T.row (h.rows p hp) (by omega), ?_⟩
  refine SetAt.congr (h.row.put i true) fun x _ => ?_
  unfold putB
  by_cases e : x = i
  · simp [e]
  · have e2 : (x < i + 1) = (x < i) := by simp; omega
    simp only [e, if_false, e2]

theorem PgIn.full {w0 W : World} {H n m j : Nat} (h : PgIn w0 H n m j n W) : PgMk w0 H n m (j + 1) W :=
  ⟨h.below, by have := h.size; omega, h.n3, h.g7, h.gG, h.pv, h.top, fun p hp => by
    by_cases e : p = j
    · subst e
      exact h.row
    · exact h.rows p (by omega)⟩

theorem PgMk.done {w0 W : World} {H n m : Nat} (h : PgMk w0 H n m n W) : PgAt w0 H n m (fullN n) W :=
  ⟨h.below, h.n3, h.g7, h.gG, h.pv, ⟨h.top.congr fun i hi => by simp [hi], h.rows, fun p _ => by omega, fun p q _ _ e => by omega⟩⟩

theorem fullN_gr (n : Nat) : Gr (fullN n) n := ⟨fun x y hx hy => by simp [fullN, hx, hy], fun x hx => by simp [fullN, hx], fun x y h => by simpa [fullN] using h⟩

end Go.Proofs.Qxb6615834aFmt
