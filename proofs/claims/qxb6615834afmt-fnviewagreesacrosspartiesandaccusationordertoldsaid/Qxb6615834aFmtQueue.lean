/-
  A queue of parties in memory: a slice that is read at its head and appended to at its end.
-/
import Derived.Test.Qxb6615834aFmtLower
import Derived.Test.Qxb6615834aFmtRound
import Derived.ArgAppend
namespace Go.Proofs.Qxb6615834aFmt
open Go.RowKit Go.Deep

/-- From cell 'off' of block b on lie the parties of xs; there is room for cap in all. -/
def QAt (w : World) (b off cap : Nat) (xs : List Nat) : Prop :=
  ∃ cur : Array Value, w.heap[b]? = some (.cells cur 3 (0, 0)) ∧ cur.size = off + cap ∧ xs.length ≤ cap ∧ ∀ i, i < xs.length → cur[off + i]? = some (.int .i64 ((xs[i]?.getD 0 : Nat) + 1 : Int))

theorem QAt.of_block {w w' : World} {b off cap : Nat} {xs : List Nat} (h : QAt w b off cap xs) (e : w'.heap[b]? = w.heap[b]?) : QAt w' b off cap xs := by
  obtain ⟨cur, h1, h2⟩ := h
  exact ⟨cur, e.trans h1, h2⟩

theorem QAt.lt {w : World} {b off cap : Nat} {xs : List Nat} (h : QAt w b off cap xs) : b < w.heap.size := by
  obtain ⟨cur, h1, _⟩ := h
  exact (Array.getElem?_eq_some_iff.1 h1).1

theorem QAt.cells {w : World} {b off cap : Nat} {xs : List Nat} (h : QAt w b off cap xs) (i : Nat) (hi : i < xs.length) : w.cell? ⟨b, off + i, none⟩ = some (.int .i64 ((xs[i]?.getD 0 : Nat) + 1 : Int)) := by
  obtain ⟨cur, h1, h2, h3, h4⟩ := h
  simp [World.cell?, h1, h4 i hi]

theorem QAt.head {w : World} {b off cap q : Nat} {xs : List Nat} (h : QAt w b off cap (q :: xs)) : w.cell? ⟨b, off, none⟩ = some (.int .i64 ((q : Int) + 1)) := by
  have := h.cells 0 (by simp)
  simpa using this

theorem QAt.tail {w : World} {b off cap q : Nat} {xs : List Nat} (h : QAt w b off cap (q :: xs)) : QAt w b (off + 1) (cap - 1) xs := by
  obtain ⟨cur, h1, h2, h3, h4⟩ := h
  simp only [List.length_cons] at h3 h4
  refine ⟨cur, h1, by omega, by omega, fun i hi => ?_⟩
  have := h4 (i + 1) (by omega)
  rw [show off + 1 + i = off + (i + 1) by omega, this]
  simp

theorem QAt.new (w : World) (p : Nat) : QAt (w.alloc (.cells #[.int .i64 ((p : Int) + 1)] 3)) w.heap.size 0 1 [p] :=
  ⟨#[.int .i64 ((p : Int) + 1)], blk_alloc_new _ _, rfl, Nat.le_refl _, fun i hi => by
    have : i = 0 := by simpa using hi
    subst this
    simp⟩

theorem Tryf.info3 : (Tryf.prog.info? 3).map (fun i => (i.zero, i.size, i.bytes)) = some (some (.int .i64 0), 1, 8) := by kernel_rfl

theorem setCells_one (w : World) (b o : Nat) (v : Value) : w.setCells b o [v] = w.setCell ⟨b, o, none⟩ v := by
  simp [World.setCells]

theorem QAt.push {w : World} {b off cap r : Nat} {xs : List Nat} (h : QAt w b off cap xs) (hr : xs.length < cap) : QAt (w.setCell ⟨b, off + xs.length, none⟩ (.int .i64 ((r : Int) + 1))) b off cap (xs ++ [r]) := by
  obtain ⟨cur, h1, h2, h3, h4⟩ := h
  refine ⟨cur.setIfInBounds (off + xs.length) (.int .i64 ((r : Int) + 1)), by simp [World.setCell, Array.getElem?_modify, h1], by simpa using h2, by simp; omega, fun i hi => ?_⟩
  simp only [List.length_append, List.length_cons, List.length_nil] at hi
  rw [Array.getElem?_setIfInBounds]
  by_cases e : i = xs.length
  · subst e
    simp
    omega
  · rw [if_neg (by omega), h4 i (by omega), List.getElem?_append_left (by omega)]

/-- append(next, r), r laid in the newest block. -/
theorem run_append_q {w : World} {b off cap r : Nat} {xs : List Nat} (h : QAt w b off cap xs) (ty : TypeId) (hlen : xs.length ≤ 1000000) :
    ∃ b' off' cap' w', (Builtin.append_ #[42, 42] ty #[.slice (some ⟨b, off, none⟩) xs.length cap, .slice (some ⟨w.heap.size, 0, none⟩) 1 1]).run Tryf.prog (w.alloc (.cells #[.int .i64 ((r : Int) + 1)] 3)) = .ok (.slice (some ⟨b', off', none⟩) (xs.length + 1) cap') w' ∧
      QAt w' b' off' cap' (xs ++ [r]) ∧ w.grownBy w' (some b) ∧ (b' = b ∨ w.heap.size < b') := by
  obtain ⟨i0, hi, hz0, hz1, hz2⟩ := info_parts Tryf.info3
  have hA : QAt (w.alloc (.cells #[.int .i64 ((r : Int) + 1)] 3)) b off cap xs := h.of_block (blk_alloc_lt _ _ _ h.lt)
  obtain ⟨cur, h1, h2, h3, h4⟩ := hA
  by_cases hr : xs.length < cap
  · have hrun := run_append_room_cells (P := Tryf.prog) (w.alloc (.cells #[.int .i64 ((r : Int) + 1)] 3)) 42 ty 3 i0 Tryf.underlying42 hi b off xs.length cap ⟨w.heap.size, 0, none⟩ 1 1 [.int .i64 ((r : Int) + 1)] (by rw [hz1]; rfl) (cell_one_new _ _ _) (by simp [Value.oneCell'])
      (by omega) (fun j hj => by
        have : j = 0 := by simpa using hj
        subst this
        rw [hz1]
        simp [World.cell?, h1]
        omega) (fun j hj => by simp [World.frozen?, h1])
    rw [hz1, setCells_one, Nat.mul_one] at hrun
    refine ⟨b, off, cap, _, hrun, (QAt.push ⟨cur, h1, h2, h3, h4⟩ hr), ⟨rfl, rfl, rfl, by simp, fun k hk hne => ?_⟩, Or.inl rfl⟩
    rw [blk_setCell_other _ _ _ _ (by simpa using hne)]
    exact blk_alloc_lt _ _ _ hk
  · obtain ⟨v', w', hrun, ho, hg⟩ := run_append_arg_grows (P := Tryf.prog) (w.alloc (.cells #[.int .i64 ((r : Int) + 1)] 3)) 42 ty 3 i0 (.int .i64 0) 1 8 Tryf.underlying42 hi hz0 hz1 hz2 rfl (by decide) ⟨b, off, none⟩ xs.length cap (xs.map fun x : Nat => Value.int .i64 ((x : Int) + 1)) (by simp) (fun j u hj => by
        rw [Addr.add_lit]
        have hj' : j < xs.length := by
          have := (List.getElem?_eq_some_iff.1 hj).1
          simpa using this
        rw [(QAt.cells ⟨cur, h1, h2, h3, h4⟩ j hj'), ← hj]
        simp [hj']) ⟨w.heap.size, 0, none⟩ 1 1 [.int .i64 ((r : Int) + 1)] rfl (cell_one_new _ _ _) (by omega) (by unfold maxLen; omega) (by omega)
    obtain ⟨hl, h0 | ⟨g, cp, cur', rfl, k1, k2, k3, k4, k5, k6⟩⟩ := ho
    · omega
    · refine ⟨g, 0, cp, w', hrun, ⟨cur', k2, by omega, by simp; omega, fun i hi' => ?_⟩, ⟨hg.os, hg.tape, hg.output, Nat.le_trans (by simp) hg.size, fun k hk hne => ?_⟩, Or.inr (by simp at k1; omega)⟩
      · simp only [List.length_append, List.length_cons, List.length_nil] at hi'
        have e1 : (cur'.toList.take ((xs.length + 1) * 1))[i]? = cur'.toList[i]? := by rw [List.getElem?_take]; simp; omega
        rw [k6] at e1
        rw [Nat.zero_add, ← Array.getElem?_toList, ← e1]
        by_cases e : i = xs.length
        · subst e
          simp
        · rw [List.getElem?_append_left (by simp; omega), List.getElem?_append_left (by omega)]
          have : i < xs.length := by omega
          simp [this]
      · rw [hg.block k (by simp; omega) (by simp)]
        exact blk_alloc_lt _ _ _ hk

/-- .. as a law for the walk inside a fence. -/
theorem wpListIn_append_q {F : Fence} {n : Nat} {w : World} {ops : Array Oper} {rest : List Oper} {o : Oper} {a : Act} {Q : Exit → Act → World → Prop}
    (hg : o.guard = none) (s x : Operand) (hop : o.op = Op.call { callee := Callee.builtin Builtin.append, args := #[s, x], argTypes := #[42, 42] })
    (b off cap r : Nat) (xs : List Nat) (hs : a.eval s = .slice (some ⟨b, off, none⟩) xs.length cap) (hx : a.eval x = .slice (some ⟨w.heap.size, 0, none⟩) 1 1) (h : QAt w b off cap xs) (hlen : xs.length ≤ 1000000)
    (hK : ∀ b' off' cap' w', QAt w' b' off' cap' (xs ++ [r]) → w.grownBy w' (some b) → (b' = b ∨ w.heap.size < b') → wpListIn F n Tryf.prog ops Q rest (a.put o.dst (.slice (some ⟨b', off', none⟩) (xs.length + 1) cap')) w') :
    wpListIn F n Tryf.prog ops Q (o :: rest) a (w.alloc (.cells #[.int .i64 ((r : Int) + 1)] 3)) := by
  refine wpListIn_plain hg fun K hK' => ?_
  obtain ⟨b', off', cap', w', hrun, r1, r2, r3⟩ := run_append_q (r := r) h o.type hlen
  unfold Oper.wpIn
  refine ⟨?_, ?_⟩
  · simp [Oper.about, hop, resolve, Target.leads, Sem.run_pure]
  · rw [Oper.semAt_plain F _ _ (by rw [hop]; intro c hc'; cases hc')]
    simp [execOp, hop, resolve, invoke, builtin, hs, hx, hrun, Result.andThen]
    exact hK' _ _ (hK b' off' cap' w' r1 r2 r3)

end Go.Proofs.Qxb6615834aFmt
