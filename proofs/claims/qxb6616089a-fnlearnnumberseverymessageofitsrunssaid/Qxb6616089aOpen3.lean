/-
  Slices of structs of three one-cell fields that came in, opened.
-/
import Derived.Test.Qxb6616089aOpen
import Derived.Test.Qxb6616089aBuildO
import Derived.Deep.Strs
namespace Go.Proofs.Qxb6616089a
open Go.ChangeShapes Go.WideShapes Go.ChangeAt Go.RowKit Go.Deep

theorem Try.cells47 : Try.prog.cellsOf 47 = 3 := by kernel_rfl
theorem Try.cells38 : Try.prog.cellsOf 38 = 3 := by kernel_rfl
theorem Try.cells3 : Try.prog.cellsOf 3 = 1 := by kernel_rfl

section
variable {H : Type} {enc : TypeId × Value → H} {P : Program} {w : World} {base : Nat} {spare : Nat → Bool} {held : Bool}

theorem open_slice_trips {t e : TypeId} {f0 f1 f2 : Field} {fuel : Nat} {cs : List Value} {x : DataW H × List MemPlace} (ht : P.underlying t = some (.slice e)) (he : P.underlying e = some (.struct #[f0, f1, f2]))
    (ce : P.cellsOf e = 3) (p0 : f0.offset = 0) (p1 : f1.offset = 1) (p2 : f2.offset = 2) (c0 : P.cellsOf f0.type = 1) (c1 : P.cellsOf f1.type = 1) (c2 : P.cellsOf f2.type = 1)
    (h : DataW.trod enc P w base (fun _ => true) held fuel t cs = some x) :
    cs = [.slice none 0 0] ∨
    ∃ (a : Addr) (len cap n : Nat) (V0 V1 V2 : Nat → Value), cs = [.slice (some a) len cap] ∧ len ≤ cap ∧
      ∀ i, i < len → w.cell? (a.add (i * 3)) = some (V0 i) ∧ w.cell? (a.add (i * 3 + 1)) = some (V1 i) ∧ w.cell? (a.add (i * 3 + 2)) = some (V2 i) ∧
        (∃ y, DataW.trod enc P w base (fun _ => true) held n f0.type [V0 i] = some y) ∧ (∃ y, DataW.trod enc P w base (fun _ => true) held n f1.type [V1 i] = some y) ∧ (∃ y, DataW.trod enc P w base (fun _ => true) held n f2.type [V2 i] = some y) := by
  rcases open_slice ht h with ⟨h0, _⟩ | ⟨a, len, cap, m, n, D, Pl, rfl, hb, hl, hm, hmm, rfl, hx⟩
  · exact Or.inl h0
  right
  simp only [if_true] at hmm
  have each : ∀ i, i < len → ∃ q : Value × Value × Value, w.cell? (a.add (i * 3)) = some q.1 ∧ w.cell? (a.add (i * 3 + 1)) = some q.2.1 ∧ w.cell? (a.add (i * 3 + 2)) = some q.2.2 ∧
        (∃ y, DataW.trod enc P w base (fun _ => true) held (n - 1) f0.type [q.1] = some y) ∧ (∃ y, DataW.trod enc P w base (fun _ => true) held (n - 1) f1.type [q.2.1] = some y) ∧ (∃ y, DataW.trod enc P w base (fun _ => true) held (n - 1) f2.type [q.2.2] = some y) := by
    intro i hi
    obtain ⟨cs', h1, h2⟩ := hx i (by omega)
    rw [ce] at h1
    obtain ⟨_, hlen, hcell⟩ := World.cells?_some h1
    obtain ⟨xs, k, hk, hxy, _, hxl, hf⟩ := DataW.trod_struct he h2
    have hk' : k = n - 1 := by omega
    subst hk'
    match xs, hxl, cs', hlen with
    | [y0, y1, y2], _, [v0, v1, v2], _ =>
      have g0 := hf 0 f0 rfl
      have g1 := hf 1 f1 rfl
      have g2 := hf 2 f2 rfl
      simp [p0, p1, p2, c0, c1, c2] at g0 g1 g2
      have e0 := hcell 0 (by omega)
      have e1 := hcell 1 (by omega)
      have e2 := hcell 2 (by omega)
      rw [add_add] at e0 e1 e2
      exact ⟨(v0, v1, v2), by simpa using e0, by simpa using e1, by simpa using e2, ⟨y0, g0⟩, ⟨y1, g1⟩, ⟨y2, g2⟩⟩
  obtain ⟨q, hq⟩ := choose_lt each
  exact ⟨a, len, cap, n - 1, fun i => (q i).1, fun i => (q i).2.1, fun i => (q i).2.2, rfl, hl, hq⟩
end

set_option maxRecDepth 100000 in
theorem open_entries {H : Type} {enc : TypeId × Value → H} {W : World} {v : Value} {d : DataW H} {p : List MemPlace} {base : Nat} (hv : Value.okWide Try.prog W .any base 33 v) (h : DataW.Trod enc Try.prog W 0 (fun _ => true) true 33 v d p) :
    ∃ (A : Option Addr) (b off n cap : Nat) (K S Q : Nat → Int), v = .slice A n cap ∧ (0 < n → A = some ⟨b, off, none⟩) ∧ (∀ i, i < n → (Lit.int .u64 (K i)).wf = true) ∧ TripAt W b off n (fun i => .int .u64 (K i)) (fun i => .int .i64 (S i)) (fun i => .int .u64 (Q i)) := by
  obtain ⟨a0, n0, c0, rfl⟩ := okWide_slice Try.underlying33 hv
  obtain ⟨fuel, hf⟩ := h
  rcases open_slice_trips Try.underlying33 Try.underlying47 Try.cells47 rfl rfl rfl Try.cells24 Try.cells3 Try.cells24 (by simpa [Value.cells] using hf) with hcs | ⟨a, len, cap, n, V0, V1, V2, hcs, hl, hx⟩
  · simp at hcs
    obtain ⟨rfl, rfl, rfl⟩ := hcs
    exact ⟨none, 0, 0, 0, 0, fun _ => 0, fun _ => 0, fun _ => 0, rfl, fun h => absurd h (Nat.lt_irrefl _), fun i hi => absurd hi (Nat.not_lt_zero _), ⟨fun i hi => absurd hi (Nat.not_lt_zero _), fun i hi => absurd hi (Nat.not_lt_zero _), fun i hi => absurd hi (Nat.not_lt_zero _)⟩⟩
  · simp at hcs
    obtain ⟨rfl, rfl, rfl⟩ := hcs
    have each : ∀ i, i < n0 → ∃ y : Int × Int × Int, W.cell? (a.add (i * 3)) = some (.int .u64 y.1) ∧ W.cell? (a.add (i * 3 + 1)) = some (.int .i64 y.2.1) ∧ W.cell? (a.add (i * 3 + 2)) = some (.int .u64 y.2.2) ∧ (Lit.int .u64 y.1).wf = true := fun i hi => by
      obtain ⟨h1, h2, h3, ⟨_, t0⟩, ⟨_, t1⟩, ⟨_, t2⟩⟩ := hx i hi
      obtain ⟨x, e0, _, wx⟩ := DataW.trod_int Try.underlying24 t0
      obtain ⟨y, e1, _, _⟩ := DataW.trod_int Try.underlying3 t1
      obtain ⟨z, e2, _, _⟩ := DataW.trod_int Try.underlying24 t2
      simp at e0 e1 e2
      exact ⟨(x, y, z), by rw [h1, e0], by rw [h2, e1], by rw [h3, e2], wx⟩
    obtain ⟨y, hy⟩ := choose_lt each
    by_cases h0 : 0 < n0
    · obtain ⟨b, off, rfl⟩ := plain_at (by simpa using (hy 0 h0).1)
      exact ⟨_, b, off, n0, c0, fun i => (y i).1, fun i => (y i).2.1, fun i => (y i).2.2, rfl, fun _ => rfl, fun i hi => (hy i hi).2.2.2, ⟨fun i hi => by rw [← add_plain]; exact (hy i hi).1, fun i hi => by rw [Nat.add_assoc, ← add_plain]; exact (hy i hi).2.1, fun i hi => by rw [Nat.add_assoc, ← add_plain]; exact (hy i hi).2.2.1⟩⟩
    · have e : n0 = 0 := by omega
      subst e
      exact ⟨some a, 0, 0, 0, c0, fun _ => 0, fun _ => 0, fun _ => 0, rfl, fun h => absurd h (Nat.lt_irrefl _), fun i hi => absurd hi (Nat.not_lt_zero _), ⟨fun i hi => absurd hi (Nat.not_lt_zero _), fun i hi => absurd hi (Nat.not_lt_zero _), fun i hi => absurd hi (Nat.not_lt_zero _)⟩⟩

theorem u64_nat {x : Int} (h : (Lit.int .u64 x).wf = true) : x = (x.toNat : Int) := by
  simp [Lit.wf, IntKind.min, IntKind.max, IntKind.signed, IntKind.bits] at h
  omega

set_option maxRecDepth 100000 in
theorem open_runs {H : Type} {enc : TypeId × Value → H} {W : World} {v : Value} {d : DataW H} {p : List MemPlace} {base : Nat} (hv : Value.okWide Try.prog W .any base 34 v) (h : DataW.Trod enc Try.prog W 0 (fun _ => true) true 34 v d p) :
    ∃ (A : Option Addr) (b off n cap : Nat) (RS RQ : Nat → Int) (C : Nat → Nat), v = .slice A n cap ∧ (0 < n → A = some ⟨b, off, none⟩) ∧ TripAt W b off n (fun i => .int .i64 (RS i)) (fun i => .int .u64 (RQ i)) (fun i => .int .u64 (C i)) := by
  obtain ⟨a0, n0, c0, rfl⟩ := okWide_slice Try.underlying34 hv
  obtain ⟨fuel, hf⟩ := h
  rcases open_slice_trips Try.underlying34 Try.underlying38 Try.cells38 rfl rfl rfl Try.cells3 Try.cells24 Try.cells24 (by simpa [Value.cells] using hf) with hcs | ⟨a, len, cap, n, V0, V1, V2, hcs, hl, hx⟩
  · simp at hcs
    obtain ⟨rfl, rfl, rfl⟩ := hcs
    exact ⟨none, 0, 0, 0, 0, fun _ => 0, fun _ => 0, fun _ => 0, rfl, fun h => absurd h (Nat.lt_irrefl _), ⟨fun i hi => absurd hi (Nat.not_lt_zero _), fun i hi => absurd hi (Nat.not_lt_zero _), fun i hi => absurd hi (Nat.not_lt_zero _)⟩⟩
  · simp at hcs
    obtain ⟨rfl, rfl, rfl⟩ := hcs
    have each : ∀ i, i < n0 → ∃ y : Int × Int × Nat, W.cell? (a.add (i * 3)) = some (.int .i64 y.1) ∧ W.cell? (a.add (i * 3 + 1)) = some (.int .u64 y.2.1) ∧ W.cell? (a.add (i * 3 + 2)) = some (.int .u64 (y.2.2 : Int)) := fun i hi => by
      obtain ⟨h1, h2, h3, ⟨_, t0⟩, ⟨_, t1⟩, ⟨_, t2⟩⟩ := hx i hi
      obtain ⟨x, e0, _, _⟩ := DataW.trod_int Try.underlying3 t0
      obtain ⟨y, e1, _, _⟩ := DataW.trod_int Try.underlying24 t1
      obtain ⟨z, e2, _, wz⟩ := DataW.trod_int Try.underlying24 t2
      simp at e0 e1 e2
      exact ⟨(x, y, z.toNat), by rw [h1, e0], by rw [h2, e1], by rw [h3, e2, ← u64_nat wz]⟩
    obtain ⟨y, hy⟩ := choose_lt each
    by_cases h0 : 0 < n0
    · obtain ⟨b, off, rfl⟩ := plain_at (by simpa using (hy 0 h0).1)
      exact ⟨_, b, off, n0, c0, fun i => (y i).1, fun i => (y i).2.1, fun i => (y i).2.2, rfl, fun _ => rfl, ⟨fun i hi => by rw [← add_plain]; exact (hy i hi).1, fun i hi => by rw [Nat.add_assoc, ← add_plain]; exact (hy i hi).2.1, fun i hi => by rw [Nat.add_assoc, ← add_plain]; exact (hy i hi).2.2⟩⟩
    · have e : n0 = 0 := by omega
      subst e
      exact ⟨some a, 0, 0, 0, c0, fun _ => 0, fun _ => 0, fun _ => 0, rfl, fun h => absurd h (Nat.lt_irrefl _), ⟨fun i hi => absurd hi (Nat.not_lt_zero _), fun i hi => absurd hi (Nat.not_lt_zero _), fun i hi => absurd hi (Nat.not_lt_zero _)⟩⟩

end Go.Proofs.Qxb6616089a
