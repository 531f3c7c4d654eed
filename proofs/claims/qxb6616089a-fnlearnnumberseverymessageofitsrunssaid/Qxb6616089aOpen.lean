/-
  A slice of ranges that came in, opened.
-/
import Derived.Test.Qxb6616089aRows
import Derived.Test.Qxb6616089aBase
import Derived.ProofKit
import Derived.Deep.SlicePairs
namespace Go.Proofs.Qxb6616089a
open Go.ChangeShapes Go.WideShapes Go.ChangeAt Go.RowKit Go.Deep

theorem Try.own : ownKnob Try.prog.godebug = none := by kernel_rfl
theorem Try.laidOut : laidOutB Try.prog = true := by kernel_rfl
theorem Try.cells26 : Try.prog.cellsOf 26 = 2 := by kernel_rfl
theorem Try.cells24 : Try.prog.cellsOf 24 = 1 := by kernel_rfl

theorem plain_at {w : World} {a : Addr} {v : Value} (h : w.cell? (a.add 0) = some v) : ∃ b off, a = ⟨b, off, none⟩ := by
  obtain ⟨b, off, spot⟩ := a
  have hspot : spot = none := by simpa [Addr.add] using World.cell?_spot h
  subst hspot
  exact ⟨b, off, rfl⟩

set_option maxRecDepth 100000 in
theorem open_ranges {H : Type} {enc : TypeId × Value → H} {W : World} {v : Value} {d : DataW H} {p : List MemPlace} {base : Nat} (hv : Value.okWide Try.prog W .any base 22 v) (h : DataW.Trod enc Try.prog W 0 (fun _ => true) true 22 v d p) :
    ∃ (A : Option Addr) (b off n cap : Nat) (F L : Nat → Int), v = .slice A n cap ∧ (0 < n → A = some ⟨b, off, none⟩) ∧ (A = none → n = 0 ∧ cap = 0) ∧ RangesAt W b off n F L := by
  obtain ⟨a0, n0, c0, rfl⟩ := okWide_slice Try.underlying22 hv
  obtain ⟨fuel, hf⟩ := h
  rcases open_slice_pairs Try.underlying22 Try.underlying26 Try.cells26 rfl rfl Try.cells24 Try.cells24 (by simpa [Value.cells] using hf) with ⟨hcs, _⟩ | ⟨a, len, cap, m, n, V0, V1, D0, D1, P0, P1, hcs, _, hl, hm, hmm, _, hx⟩
  · simp at hcs
    obtain ⟨rfl, rfl, rfl⟩ := hcs
    exact ⟨none, 0, 0, 0, 0, fun _ => 0, fun _ => 0, rfl, fun h => absurd h (Nat.lt_irrefl _), fun _ => ⟨rfl, rfl⟩, ⟨fun i hi => absurd hi (Nat.not_lt_zero _), fun i hi => absurd hi (Nat.not_lt_zero _)⟩⟩
  · simp at hcs
    obtain ⟨rfl, rfl, rfl⟩ := hcs
    simp only [if_true] at hmm
    have each : ∀ i, i < n0 → ∃ y : Int × Int, W.cell? (a.add (i * 2)) = some (.int .u64 y.1) ∧ W.cell? (a.add (i * 2 + 1)) = some (.int .u64 y.2) := fun i hi => by
      obtain ⟨h1, h2, h3, h4⟩ := hx i (by omega)
      obtain ⟨x, e0, _, _⟩ := DataW.trod_int Try.underlying24 h3
      obtain ⟨y, e1, _, _⟩ := DataW.trod_int Try.underlying24 h4
      simp at e0 e1
      exact ⟨(x, y), by rw [h1, e0], by rw [h2, e1]⟩
    obtain ⟨y, hy⟩ := choose_lt each
    by_cases h0 : 0 < n0
    · obtain ⟨b, off, rfl⟩ := plain_at (by simpa using (hy 0 h0).1)
      exact ⟨_, b, off, n0, c0, fun i => (y i).1, fun i => (y i).2, rfl, fun _ => rfl, fun h => (by cases h), ⟨fun i hi => by rw [← add_plain]; exact (hy i hi).1, fun i hi => by rw [Nat.add_assoc, ← add_plain]; exact (hy i hi).2⟩⟩
    · have e : n0 = 0 := by omega
      subst e
      exact ⟨some a, 0, 0, 0, c0, fun _ => 0, fun _ => 0, rfl, fun h => absurd h (Nat.lt_irrefl _), fun h => (by cases h), ⟨fun i hi => absurd hi (Nat.not_lt_zero _), fun i hi => absurd hi (Nat.not_lt_zero _)⟩⟩

end Go.Proofs.Qxb6616089a
