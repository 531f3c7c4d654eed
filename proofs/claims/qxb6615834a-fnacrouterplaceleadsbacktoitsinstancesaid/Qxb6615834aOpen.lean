/-
  A slice of slices of strings that came in, opened.
-/
import Derived.Test.Qxb6615834aRows
import Derived.Test.Qxb6615834aLast
import Derived.ProofKit
import Derived.Deep.Slices
import Derived.Deep.Strs
namespace Go.Proofs.Qxb6615834a
open Go.ChangeShapes Go.WideShapes Go.ChangeAt Go.RowKit Go.Deep

theorem Try.own : ownKnob Try.prog.godebug = none := by kernel_rfl
theorem Try.laidOut : laidOutB Try.prog = true := by kernel_rfl
theorem Try.cells25 : Try.prog.cellsOf 25 = 1 := by kernel_rfl
theorem Try.cells9 : Try.prog.cellsOf 9 = 1 := by kernel_rfl

theorem plain_at {w : World} {a : Addr} {v : Value} (h : w.cell? (a.add 0) = some v) : ∃ b off, a = ⟨b, off, none⟩ := by
  obtain ⟨b, off, spot⟩ := a
  have hspot : spot = none := by simpa [Addr.add] using World.cell?_spot h
  subst hspot
  exact ⟨b, off, rfl⟩

/-- one row -/
theorem open_row {H : Type} {enc : TypeId × Value → H} {W : World} {base : Nat} {held : Bool} {fuel : Nat} {v : Value} {x : DataW H × List MemPlace} (h : DataW.trod enc Try.prog W base (fun _ => true) held fuel 25 [v] = some x) :
    ∃ y : Option Addr × Nat × Nat × Nat × Nat × (Nat → ByteArray), v = .slice y.1 y.2.1 y.2.2.1 ∧ (0 < y.2.1 → y.1 = some ⟨y.2.2.2.1, y.2.2.2.2.1, none⟩) ∧ (∀ j, j < y.2.1 → W.cell? ⟨y.2.2.2.1, y.2.2.2.2.1 + j, none⟩ = some (.string (y.2.2.2.2.2 j)) ∧ (y.2.2.2.2.2 j).size ≤ maxLen) ∧ y.2.1 ≤ maxLen := by
  rcases open_strs Try.underlying25 Try.underlying9 Try.cells9 h with ⟨hcs, _⟩ | ⟨a, len, cap, m, Sx, hcs, _, hl, hm, hmm, _, hx⟩
  · exact ⟨(none, 0, 0, 0, 0, fun _ => ByteArray.empty), by simpa using hcs, fun h => absurd h (Nat.lt_irrefl _), fun j hj => absurd hj (Nat.not_lt_zero _), Nat.zero_le _⟩
  · have hv : v = .slice (some a) len cap := by simpa using hcs
    simp only [if_true] at hmm
    by_cases h0 : 0 < len
    · obtain ⟨b, off, rfl⟩ := plain_at (hx 0 (by omega)).1
      exact ⟨(some ⟨b, off, none⟩, len, cap, b, off, Sx), hv, fun _ => rfl, fun j hj => by rw [← add_plain]; exact hx j (by simp only at hj; omega), Nat.le_trans hl hm⟩
    · exact ⟨(some a, len, cap, 0, 0, Sx), hv, fun h => absurd h h0, fun j hj => by simp only at hj; omega, Nat.le_trans hl hm⟩

set_option maxRecDepth 100000 in
theorem open_names {H : Type} {enc : TypeId × Value → H} {W : World} {v : Value} {d : DataW H} {p : List MemPlace} {base : Nat} (hv : Value.okWide Try.prog W .any base 22 v) (h : DataW.Trod enc Try.prog W 0 (fun _ => true) true 22 v d p) :
    ∃ (A : Option Addr) (b off n cap : Nat) (RL RC RB RO : Nat → Nat) (S : Nat → Nat → ByteArray), v = .slice A n cap ∧ n ≤ cap ∧ n ≤ 9223372036854775807 ∧ (0 < n → A = some ⟨b, off, none⟩) ∧ NamesAt W b off n RL RC RB RO S ∧ ∀ i, i < n → ∀ j, j < RL i → (S i j).size ≤ maxLen := by
  obtain ⟨a0, n0, c0, rfl⟩ := okWide_slice Try.underlying22 hv
  obtain ⟨fuel, hf⟩ := h
  have hmx : maxLen ≤ 9223372036854775807 := by unfold maxLen; omega
  rcases open_slice1 Try.underlying22 Try.cells25 (by simpa [Value.cells] using hf) with ⟨hcs, _⟩ | ⟨a, len, cap, m, n, V, D, Pl, hcs, _, hl, hm, hmm, _, hx⟩
  · simp at hcs
    obtain ⟨rfl, rfl, rfl⟩ := hcs
    exact ⟨none, 0, 0, 0, 0, fun _ => 0, fun _ => 0, fun _ => 0, fun _ => 0, fun _ _ => ByteArray.empty, rfl, Nat.le_refl _, by omega, fun h => absurd h (Nat.lt_irrefl _), ⟨fun i hi => absurd hi (Nat.not_lt_zero _), fun i hi => absurd hi (Nat.not_lt_zero _), fun i hi => absurd hi (Nat.not_lt_zero _)⟩, fun i hi => absurd hi (Nat.not_lt_zero _)⟩
  · simp at hcs
    obtain ⟨rfl, rfl, rfl⟩ := hcs
    simp only [if_true] at hmm
    obtain ⟨y, hy⟩ := choose_lt (n := n0) (fun i hi => open_row (hx i (by omega)).2)
    by_cases h0 : 0 < n0
    · obtain ⟨b, off, rfl⟩ := plain_at (hx 0 (by omega)).1
      refine ⟨some ⟨b, off, none⟩, b, off, n0, c0, fun i => (y i).2.1, fun i => (y i).2.2.1, fun i => (y i).2.2.2.1, fun i => (y i).2.2.2.2.1, fun i => (y i).2.2.2.2.2, rfl, hl, by omega, fun _ => rfl, ⟨fun i hi => ?_, fun i hi j hj => ((hy i hi).2.2.1 j hj).1, fun i hi => by have := (hy i hi).2.2.2; omega⟩, fun i hi j hj => ((hy i hi).2.2.1 j hj).2⟩
      refine ⟨(y i).1, ?_, (hy i hi).2.1⟩
      rw [← add_plain, (hx i (by omega)).1, (hy i hi).1]
    · have e : n0 = 0 := by omega
      subst e
      exact ⟨some a, 0, 0, 0, c0, fun _ => 0, fun _ => 0, fun _ => 0, fun _ => 0, fun _ _ => ByteArray.empty, rfl, Nat.zero_le _, by omega, fun h => absurd h (Nat.lt_irrefl _), ⟨fun i hi => absurd hi (Nat.not_lt_zero _), fun i hi => absurd hi (Nat.not_lt_zero _), fun i hi => absurd hi (Nat.not_lt_zero _)⟩, fun i hi => absurd hi (Nat.not_lt_zero _)⟩

end Go.Proofs.Qxb6615834a
