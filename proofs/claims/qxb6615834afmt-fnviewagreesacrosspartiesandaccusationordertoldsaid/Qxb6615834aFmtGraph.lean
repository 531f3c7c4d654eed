/-
  The pruned graph in memory; cut: the walk.
-/
import Derived.Test.Qxb6615834aFmtIter
namespace Go.Proofs.Qxb6615834aFmt
open Go.RowKit Go.Deep

/-- Block bN holds n set values; value p leads to block B p, a row of m words of the set N p. -/
structure NbAt (w : World) (bN n m : Nat) (B : Nat → Nat) (N : Nat → Nat → Bool) : Prop where
  top : w.rowIs bN 57 n (fun p => .slice (some ⟨B p, 0, none⟩) m m)
  rows : ∀ p, p < n → SetAt w (B p) m (N p)
  apart : ∀ p, p < n → B p ≠ bN
  inj : ∀ p q, p < n → q < n → B p = B q → p = q

/-- N with the edge between x and y put to v, one way. -/
def putN (N : Nat → Nat → Bool) (x y : Nat) (v : Bool) : Nat → Nat → Bool := fun p => if p = x then putB (N x) y v else N p

theorem NbAt.of_blocks {w w' : World} {bN n m : Nat} {B : Nat → Nat} {N : Nat → Nat → Bool} (h : NbAt w bN n m B N) (e0 : w'.heap[bN]? = w.heap[bN]?) (e : ∀ p, p < n → w'.heap[B p]? = w.heap[B p]?) : NbAt w' bN n m B N :=
  ⟨h.top.of_block e0, fun p hp => World.rowIs.of_block (h.rows p hp) (e p hp), h.apart, h.inj⟩

theorem NbAt.put {w : World} {bN n m : Nat} {B : Nat → Nat} {N : Nat → Nat → Bool} (h : NbAt w bN n m B N) (x y : Nat) (hx : x < n) (v : Bool) : NbAt (wrote w (B x) y (putB (N x) y v)) bN n m B (putN N x y v) := by
  refine ⟨h.top.setOther (by have := h.apart x hx; simp; exact fun e => this e.symm) _, fun p hp => ?_, h.apart, h.inj⟩
  by_cases e : p = x
  · subst e
    have := (h.rows p hp).put y v
    simpa [putN] using this
  · have h1 := h.rows p hp
    have : SetAt (wrote w (B x) y (putB (N x) y v)) (B p) m (N p) := World.rowIs.setOther h1 (by intro e'; exact e (h.inj p x hp hx e')) _
    simpa [putN, e] using this

/-- The graph's own block: where the neighbours lie; the edges that pruning removed. -/
def GAt (w : World) (bG bN n : Nat) (pv : Value) : Prop := w.rowIs bG 62 2 (fun i => if i = 0 then .slice (some ⟨bN, 0, none⟩) n n else pv)

theorem GAt.nb {w : World} {bG bN n : Nat} {pv : Value} (h : GAt w bG bN n pv) : w.cell? ⟨bG, 0, none⟩ = some (.slice (some ⟨bN, 0, none⟩) n n) := World.rowIs.cell h (by omega)
theorem GAt.pr {w : World} {bG bN n : Nat} {pv : Value} (h : GAt w bG bN n pv) : w.cell? ⟨bG, 1, none⟩ = some pv := World.rowIs.cell h (by omega)
theorem GAt.put {w : World} {bG bN n : Nat} {pv : Value} (h : GAt w bG bN n pv) (v : Value) : GAt (w.setCell ⟨bG, 1, none⟩ v) bG bN n v :=
  (World.rowIs.set h 1 v).congr fun i hi => by
    have : i = 0 ∨ i = 1 := by omega
    rcases this with rfl | rfl <;> simp

/-- What cut leaves. -/
def cutW (w : World) (B : Nat → Nat) (N : Nat → Nat → Bool) (x y : Nat) : World :=
  (wrote (wrote w (B x) y (putB (N x) y false)).drew (B y) x (putB (putN N x y false y) x false)).drew

def cutN (N : Nat → Nat → Bool) (x y : Nat) : Nat → Nat → Bool := putN (putN N x y false) y x false

theorem NbAt.cut {w : World} {bN n m : Nat} {B : Nat → Nat} {N : Nat → Nat → Bool} (h : NbAt w bN n m B N) (x y : Nat) (hx : x < n) (hy : y < n) : NbAt (cutW w B N x y) bN n m B (cutN N x y) :=
  ((h.put x y hx false).of_blocks rfl (fun _ _ => rfl)).put y x hy false |>.of_blocks rfl (fun _ _ => rfl)

set_option maxHeartbeats 1000000 in
theorem cut_any (bG bN n m x y : Nat) (B : Nat → Nat) (N : Nat → Nat → Bool) (hn : n ≤ 64 * m) (hm : m ≤ 16) (hx : x < n) (hy : y < n) (w : World) (h : NbAt w bN n m B N) (pv : Value) (hg : GAt w bG bN n pv) (hgb : ∀ p, p < n → B p ≠ bG) :
    Calls Tryf.prog 33 #[.pointer (some ⟨bG, 0, none⟩), .int .i64 ((x : Int) + 1), .int .i64 ((y : Int) + 1)] w fun e w' => e = .returned (.tuple #[]) ∧ w' = cutW w B N x y := by
  have c1 := h.top.cell hx
  have h2 := h.put x y hx false
  have c2 := h2.top.drew.cell hy
  have g1 := hg.nb
  have g2 : (wrote w (B x) y (putB (N x) y false)).drew.cell? ⟨bG, 0, none⟩ = some (.slice (some ⟨bN, 0, none⟩) n n) :=
    GAt.nb (w := (wrote w (B x) y (putB (N x) y false)).drew) (pv := pv) (World.rowIs.setOther hg (fun e => hgb x hx e.symm) _)
  have k1 := remove_any (B x) m y (N x) (by omega) hm w (h.rows x hx)
  have k2 := remove_any (B y) m x (putN N x y false y) (by omega) hm (wrote w (B x) y (putB (N x) y false)).drew (h2.rows y hy)
  go_enter Tryf.func33, Tryf.ntmps33
  go_wp2_with (first | (go_at_call 45; refine k1.mono ?_; clear k1; rintro e w' ⟨rfl, rfl⟩) | (go_at_call 45; refine k2.mono ?_; rintro e w' ⟨rfl, rfl⟩))
  go_end0
  exact ⟨rfl, rfl⟩

/-- Whatever block is none of the two rows is as it was. -/
theorem cutW_block {w : World} {B : Nat → Nat} {N : Nat → Nat → Bool} {x y k : Nat} (h1 : k ≠ B x) (h2 : k ≠ B y) : (cutW w B N x y).heap[k]? = w.heap[k]? := by
  have e1 : (cutW w B N x y).heap[k]? = (wrote w (B x) y (putB (N x) y false)).heap[k]? := blk_setCell_other _ _ _ _ h2
  rw [e1]
  exact blk_setCell_other _ _ _ _ h1

theorem cutW_size {w : World} {B : Nat → Nat} {N : Nat → Nat → Bool} {x y : Nat} : (cutW w B N x y).heap.size = w.heap.size := by
  simp [cutW, wrote]

end Go.Proofs.Qxb6615834aFmt
