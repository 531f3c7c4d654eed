/-
  A slice of pairs that came in, opened; the library's table off 'laid'.
-/
import Derived.Test.Qxb6615834aFmtAcc
import Derived.ProofKit
import Derived.Deep.Slices
import Derived.OpenShut
import Derived.Lib.LaidTab
namespace Go.Proofs.Qxb6615834aFmt
open Go.ChangeShapes Go.WideShapes Go.ChangeAt Go.RowKit Go.Deep

theorem Tryf.cells43 : Tryf.prog.cellsOf 43 = 2 := by kernel_rfl
theorem Tryf.cells3 : Tryf.prog.cellsOf 3 = 1 := by kernel_rfl

theorem plain_at {w : World} {a : Addr} {v : Value} (h : w.cell? (a.add 0) = some v) : ∃ b off, a = ⟨b, off, none⟩ := by
  obtain ⟨b, off, spot⟩ := a
  have hspot : spot = none := by simpa [Addr.add] using World.cell?_spot h
  subst hspot
  exact ⟨b, off, rfl⟩

set_option maxRecDepth 100000 in
theorem open_acc {H : Type} {enc : TypeId × Value → H} {W : World} {v : Value} {d : DataW H} {p : List MemPlace} {base : Nat} (hv : Value.okWide Tryf.prog W .any base 27 v) (h : DataW.Trod enc Tryf.prog W 0 (fun _ => true) true 27 v d p) :
    ∃ (A : Option Addr) (b off cap : Nat) (l : List (Int × Int)), v = .slice A l.length cap ∧ (0 < l.length → A = some ⟨b, off, none⟩) ∧ IPAt W b off l := by
  obtain ⟨a0, n0, c0, rfl⟩ := okWide_slice Tryf.underlying27 hv
  obtain ⟨fuel, hf⟩ := h
  rcases open_slice Tryf.underlying27 (by simpa [Value.cells] using hf) with ⟨hcs, _⟩ | ⟨a, len, cap, m, n, D, Pl, hcs, hb, hl, hm, hmm, _, hx⟩
  · simp at hcs
    obtain ⟨rfl, rfl, rfl⟩ := hcs
    exact ⟨none, 0, 0, 0, [], rfl, fun h => absurd h (Nat.lt_irrefl _), fun i hi => absurd hi (Nat.not_lt_zero _)⟩
  · simp at hcs
    obtain ⟨rfl, rfl, rfl⟩ := hcs
    simp only [if_true] at hmm
    have each : ∀ i, i < n0 → ∃ y : Int × Int, W.cell? (a.add (i * 2)) = some (.int .i64 y.1) ∧ W.cell? (a.add (i * 2 + 1)) = some (.int .i64 y.2) := fun i hi => by
      obtain ⟨cs', h1, h2⟩ := hx i (by omega)
      rw [Tryf.cells43] at h1
      obtain ⟨_, hlen, hcell⟩ := World.cells?_some h1
      obtain ⟨xs, k, hk, hxy, _, hxl, hall⟩ := DataW.trod_array Tryf.underlying43 h2
      match xs, hxl, cs', hlen with
      | [y0, y1], _, [v0, v1], _ =>
        have g0 := hall 0 (by omega)
        have g1 := hall 1 (by omega)
        simp [Tryf.cells3] at g0 g1
        obtain ⟨x, e0, _, _⟩ := DataW.trod_int Tryf.underlying3 g0
        obtain ⟨y, e1, _, _⟩ := DataW.trod_int Tryf.underlying3 g1
        simp at e0 e1
        have k0 := hcell 0 (by omega)
        have k1 := hcell 1 (by omega)
        rw [add_add] at k0 k1
        exact ⟨(x, y), by simpa [e0] using k0, by simpa [e1] using k1⟩
    obtain ⟨y, hy⟩ := choose_lt each
    have hlen : ((List.range n0).map y).length = n0 := by simp
    by_cases h0 : 0 < n0
    · obtain ⟨b, off, rfl⟩ := plain_at (by simpa using (hy 0 h0).1)
      refine ⟨_, b, off, c0, (List.range n0).map y, by rw [hlen], fun _ => rfl, fun i hi => ?_⟩
      rw [hlen] at hi
      have e : ((List.range n0).map y)[i]?.getD (0, 0) = y i := by simp [hi]
      rw [e, Nat.add_assoc]
      have k0 := (hy i hi).1
      have k1 := (hy i hi).2
      rw [add_plain] at k0 k1
      exact ⟨k0, k1⟩
    · have e : n0 = 0 := by omega
      subst e
      exact ⟨some a, 0, 0, c0, [], rfl, fun h => absurd h (Nat.lt_irrefl _), fun i hi => absurd hi (Nat.not_lt_zero _)⟩

/-! ### The table -/
theorem Tryf.tabName : Tryf.prog.globalNamed "math/bits.deBruijn64tab" = some 0 := by kernel_rfl

theorem laid_tab {W : World} (h : laidMet Tryf.prog [("math/bits.deBruijn64tab", Rows.laid_math_bits_deBruijn64tab)] W) : TabAt W := by
  have h1 : Lib.TabIs Tryf.prog W "math/bits.deBruijn64tab" .u8 (dbTab.toList.map fun x : Nat => (x : Int)) :=
    Lib.tabIs_of_head (rest := []) Tryf.tabName (by kernel_rfl) Tryf.underlying92 (by kernel_rfl) (by kernel_rfl) (by kernel_rfl) h
  unfold Lib.TabIs World.var? at h1
  rw [Tryf.tabName] at h1
  intro k hk
  cases e : W.heap[0]? with
  | none => simp [e] at h1
  | some o =>
    cases o with
    | cells cs t f =>
      simp only [Option.bind_some, e, Option.some.injEq] at h1
      subst h1
      simp only [World.cell?, e]
      have hk2 : k < dbTab.size := hk
      simp [hk2]
    | _ => simp [e] at h1

/-! ### A start that bears the table -/
noncomputable def laidWorld (os : Os) : World :=
  { World.holding Tryf.prog os ⟨#[], #[], []⟩ with heap := (World.holding Tryf.prog os ⟨#[], #[], []⟩).heap.modify 0 fun
      | .cells _ t frozen => .cells (dbTab.map fun x : Nat => Value.int .u8 (x : Int)) t frozen
      | o => o }
theorem laid_met (os : Os) (args : Array Value) : laidMet Tryf.prog [("math/bits.deBruijn64tab", Rows.laid_math_bits_deBruijn64tab)] ((laidWorld os).forCall (fun _ _ => 0) ⟨#[], args, []⟩).memory :=
  laidMet_of_run (ps := (List.range 64).map fun k => .cell 0 k) 8 (by kernel_rfl) (by kernel_rfl) (by kernel_rfl)

end Go.Proofs.Qxb6615834aFmt
