/-
  ZZnewOrdering walked.
-/
import Derived.Test.Qxb6616089aNew
import Derived.Test.Qxb6616089aPlain
namespace Go.Proofs.Qxb6616089a
open Go.RowKit Go.Maps

/-- how a msgID in a map reads -/
def msgElem (v : Value) : Option (DataW Unit × List MemPlace) :=
  match v with
  | .agg cs => match cs.toList with
    | [.int .i64 a, .int .u64 b] => some (.agg [.lit (.int .i64 a), .lit (.int .u64 b)], [])
    | _ => none
  | _ => none
theorem msgElem_mk (a b : Int) : msgElem (.agg #[.int .i64 a, .int .u64 b]) = some (pairD a b, []) := rfl
theorem msgElem_inv {v : Value} {a b : Int} {ps : List MemPlace} (h : msgElem v = some (pairD a b, ps)) : v = .agg #[.int .i64 a, .int .u64 b] := by
  unfold msgElem at h
  split at h
  · rename_i cs
    split at h
    · rename_i x y hcs
      simp [pairD] at h
      obtain ⟨⟨rfl, rfl⟩, _⟩ := h
      congr 1
      exact Array.toList_inj.1 (by simpa using hcs)
    · cases h
  · cases h

theorem keyed24 : Keyed Try.prog 24 := int_keyed Try.underlying24
theorem zero63 (w : World) : (zeroValue 63).run Try.prog w = .ok (.agg #[.int .i64 0, .int .u64 0]) w := by kernel_rfl
theorem key_of {x : Int} (h : (Lit.int .u64 x).wf = true) : keyOf Try.prog 24 (.int .u64 x) = some (keyL x) := keyOf_int_mk Try.underlying24 h

def ordObj (nx ps : Int) (B : Nat) : Obj := .cells #[.int .u64 0, .int .u64 nx, .map (some B), .int .u64 ps, .map (some (B + 1)), .map (some (B + 1 + 1)), .bool false, .map (some (B + 1 + 1 + 1)), .int .u64 0, .pointer none] 61

/-- an ordering in block r, its numbers in the map in block B -/
structure OrdAt (w : World) (r B : Nat) (nx ps : Int) (k : Nat) (D : DataW Unit) : Prop where
  blk : w.heap[r]? = some (ordObj nx ps B)
  own : w.ownsMap Try.prog 24 msgElem B k D
  ne : B ≠ r

theorem OrdAt.map_cell {w : World} {r B : Nat} {nx ps : Int} {k : Nat} {D : DataW Unit} (h : OrdAt w r B nx ps k D) : w.cell? ⟨r, 2, none⟩ = some (.map (some B)) := by simp [World.cell?, h.blk, ordObj]
theorem OrdAt.next_cell {w : World} {r B : Nat} {nx ps : Int} {k : Nat} {D : DataW Unit} (h : OrdAt w r B nx ps k D) : w.cell? ⟨r, 1, none⟩ = some (.int .u64 nx) := by simp [World.cell?, h.blk, ordObj]
theorem OrdAt.passed_cell {w : World} {r B : Nat} {nx ps : Int} {k : Nat} {D : DataW Unit} (h : OrdAt w r B nx ps k D) : w.cell? ⟨r, 3, none⟩ = some (.int .u64 ps) := by simp [World.cell?, h.blk, ordObj]
theorem OrdAt.keep {w w' : World} {r B : Nat} {nx ps : Int} {k : Nat} {D : DataW Unit} (h : OrdAt w r B nx ps k D) (hb : Below w.heap.size w w') : OrdAt w' r B nx ps k D :=
  ⟨by rw [hb.block r (Array.getElem?_eq_some_iff.1 h.blk).1]; exact h.blk, h.own.kept (row := none) ⟨hb.os, hb.tape, hb.output, hb.size, fun i hi _ => hb.block i hi⟩ (by simp), h.ne⟩

/-- nothing has turned but the ordering's own two blocks -/
structure Turn (w w' : World) (r B : Nat) : Prop where
  os : w'.os = w.os
  tape : w'.tape = w.tape
  output : w'.output = w.output
  size : w.heap.size ≤ w'.heap.size
  block : ∀ k, k < w.heap.size → k ≠ r → k ≠ B → w'.heap[k]? = w.heap[k]?
theorem Turn.refl (w : World) (r B : Nat) : Turn w w r B := ⟨rfl, rfl, rfl, Nat.le_refl _, fun _ _ _ _ => rfl⟩
theorem Turn.trans {w w1 w2 : World} {r B : Nat} (h1 : Turn w w1 r B) (h2 : Turn w1 w2 r B) : Turn w w2 r B :=
  ⟨h2.os.trans h1.os, h2.tape.trans h1.tape, h2.output.trans h1.output, Nat.le_trans h1.size h2.size, fun k hk a b => (h2.block k (Nat.lt_of_lt_of_le hk h1.size) a b).trans (h1.block k hk a b)⟩
theorem Turn.below {base : Nat} {w0 w w' : World} {r B : Nat} (h : Below base w0 w) (ht : Turn w w' r B) (hs : base ≤ w.heap.size) (hr : base ≤ r) (hB : base ≤ B) : Below base w0 w' :=
  h.trans ⟨ht.os, ht.tape, ht.output, ht.size, fun k hk => ht.block k (by omega) (by omega) (by omega)⟩
theorem turn_of_below {w w' : World} (h : Below w.heap.size w w') (r B : Nat) : Turn w w' r B := ⟨h.os, h.tape, h.output, h.size, fun k hk _ _ => h.block k hk⟩
theorem Turn.cell {w w' : World} {r B k o : Nat} {v : Value} (h : Turn w w' r B) (hr : k ≠ r) (hB : k ≠ B) (hc : w.cell? ⟨k, o, none⟩ = some v) : w'.cell? ⟨k, o, none⟩ = some v := by
  rw [World.cell?_of_block (w := w) (h.block k (World.block_lt_of_cell? _ _ hc) hr hB)]; exact hc

/-- 'o.numbers[x] = msgID{s, q}' behind the statement's draw -/
theorem OrdAt.store {w : World} {r B : Nat} {nx ps : Int} {k : Nat} {D : DataW Unit} (h : OrdAt w r B nx ps k D) (hk : k < maxLen) {x : Int} (hx : (Lit.int .u64 x).wf = true) (s q : Int) :
    ∃ w1, (Instr.mapUpdate 55 (.map (some B)) (.int .u64 x) (.agg #[.int .i64 s, .int .u64 q])).run Try.prog w.drew = .ok () w1 ∧ OrdAt w1 r B nx ps (k + 1) (D.put (keyL x) (pairD s q)) ∧ Turn w w1 r B ∧ w.heap.size = w1.heap.size := by
  obtain ⟨w1, hrun, ho, ht⟩ := (h.own.drew).store keyed24 Try.underlying55 hk (key_of hx) (msgElem_mk s q)
  have hg := ht.grown
  have hlt : r < w.heap.size := (Array.getElem?_eq_some_iff.1 h.blk).1
  have hsz : w.heap.size = w1.heap.size := by
    obtain ⟨es, clock, es', clock', _, rfl⟩ := ht
    simp [ChangeMaps.setBlock]
  refine ⟨w1, hrun, ⟨?_, ho, h.ne⟩, ⟨hg.os, hg.tape, hg.output, hg.size, fun i hi _ hB => hg.block i hi (by simpa using hB)⟩, hsz⟩
  rw [hg.block r hlt (by simpa using fun e => h.ne e.symm)]
  exact h.blk

set_option maxHeartbeats 1000000 in
theorem newOrdering_any (nx ps : Int) (nb sb qb n : Nat) (K S Q : Nat → Int) (w : World) (hn : n ≤ 65536) (hwf : ∀ i, i < n → (Lit.int .u64 (K i)).wf = true)
    (hK : w.rowIs nb 24 n (fun i => .int .u64 (K i))) (hS : w.rowIs sb 3 n (fun i => .int .i64 (S i))) (hQ : w.rowIs qb 24 n (fun i => .int .u64 (Q i))) :
    Calls Try.prog 23 #[.int .u64 nx, .int .u64 ps, .slice (some ⟨nb, 0, none⟩) n n, .slice (some ⟨sb, 0, none⟩) n n, .slice (some ⟨qb, 0, none⟩) n n] w fun e w' =>
      e = .returned (.pointer (some ⟨w.heap.size + 1 + 1 + 1 + 1, 0, none⟩)) ∧ Below w.heap.size w w' ∧ OrdAt w' (w.heap.size + 1 + 1 + 1 + 1) w.heap.size nx ps n (d0 K S Q n) := by
  have hmm := @run_makeMap Try.prog
  have hnb := hK.lt
  have hsb := hS.lt
  have hqb := hQ.lt
  go_enter Try.func23, Try.ntmps23
  go_wp2
  clear hmm
  have hF0 : OrdAt (((((w.alloc (Obj.map #[] 0)).alloc (Obj.map #[] 0)).alloc (Obj.map #[] 0)).alloc (Obj.map #[] 0)).alloc (ordObj nx ps w.heap.size)) (w.heap.size + 1 + 1 + 1 + 1) w.heap.size nx ps 0 (d0 K S Q 0) := by
    refine ⟨?_, ((((World.ownsMap_made w _ _ _).alloc _).alloc _).alloc _).alloc _, by omega⟩
    have := Deep.blk_alloc_new ((((w.alloc (Obj.map #[] 0)).alloc (Obj.map #[] 0)).alloc (Obj.map #[] 0)).alloc (Obj.map #[] 0)) (ordObj nx ps w.heap.size)
    rwa [Deep.nblk_alloc, Deep.nblk_alloc, Deep.nblk_alloc, Deep.nblk_alloc] at this
  have hB0 : Below w.heap.size w (((((w.alloc (Obj.map #[] 0)).alloc (Obj.map #[] 0)).alloc (Obj.map #[] 0)).alloc (Obj.map #[] 0)).alloc (ordObj nx ps w.heap.size)) :=
    (((((Below.refl _ _).alloc (Nat.le_refl _) _).alloc (by simp) _).alloc (by simp; omega) _).alloc (by simp; omega) _).alloc (by simp; omega) _
  unfold ordObj at hF0 hB0
  go_loopg [23] n (fun g x wr => ∃ i : Nat, i ≤ n ∧ g = n - i ∧ x = .int .i64 i ∧ Below w.heap.size w wr ∧ OrdAt wr (w.heap.size + 1 + 1 + 1 + 1) w.heap.size nx ps i (d0 K S Q i))
  case atStart => exact ⟨0, Nat.zero_le _, rfl, rfl, hB0, hF0⟩
  case round =>
    clear hF0 hB0
    obtain ⟨i, hi, rfl, rfl, hB, hO⟩ := hrel
    by_cases hlt : i < n
    · have hz : (i : Int) < (n : Int) := by omega
      have c1 : wr.cell? ⟨nb, i, none⟩ = some (.int .u64 (K i)) := by rw [hB.cell (p := ⟨nb, i, none⟩) hnb]; exact hK.cell hlt
      have c2 : wr.cell? ⟨sb, i, none⟩ = some (.int .i64 (S i)) := by rw [hB.cell (p := ⟨sb, i, none⟩) hsb]; exact hS.cell hlt
      have c3 : wr.cell? ⟨qb, i, none⟩ = some (.int .u64 (Q i)) := by rw [hB.cell (p := ⟨qb, i, none⟩) hqb]; exact hQ.cell hlt
      have c4 := hO.map_cell
      obtain ⟨w1, hrun, hO1, ht1, _⟩ := hO.store (by unfold maxLen; omega) (hwf i hlt) (S i) (Q i)
      have e1 := ht1.cell (by omega) (by omega) c1
      have e2 := ht1.cell (by omega) (by omega) c2
      have e3 := ht1.cell (by omega) (by omega) c3
      have e4 := hO1.map_cell
      have hB1 := Turn.below hB ht1 hB.size (by omega) (Nat.le_refl _)
      have Ht : Hid (Turn wr w1 (w.heap.size + 1 + 1 + 1 + 1) w.heap.size) := ht1
      clear ht1
      go_wp2_with fail
      go_region_held3 (fun w' => w'.cell? ⟨nb, i, none⟩ = some (.int .u64 (K i)) ∧ w'.cell? ⟨sb, i, none⟩ = some (.int .i64 (S i)) ∧ w'.cell? ⟨qb, i, none⟩ = some (.int .u64 (Q i)) ∧ w'.cell? ⟨w.heap.size + 1 + 1 + 1 + 1, 2, none⟩ = some (.map (some w.heap.size))) (go_keep) (fail)
      all_goals go_wp2
      all_goals
        go_roundg (n - (i + 1))
        case measure => go_light; omega
        case rel => go_light; exact ⟨i + 1, by omega, rfl, by go_num, hB1, hO1⟩
    · have e : n = i := by omega
      subst e
      go_wp2
      go_ret
      exact ⟨rfl, hB, hO⟩

end Go.Proofs.Qxb6616089a
