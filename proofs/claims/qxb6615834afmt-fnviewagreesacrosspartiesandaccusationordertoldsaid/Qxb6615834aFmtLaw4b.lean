/-
  FnViewMatchesPruningModel: the walk where the input is not good, or long.
-/
import Derived.Test.Qxb6615834aFmtView
namespace Go.Proofs.Qxb6615834aFmt
open Go.RowKit Go.Deep Go.Extern.Stop Go.Stop Go.Extern

set_option maxRecDepth 100000 in
set_option maxHeartbeats 1000000 in
theorem toAcc_zero (a : Addr) (c : Nat) (w : World) :
    Calls Tryf.prog 9 #[.slice (some a) 0 c] w fun e w' => e = .returned (.slice (some ⟨w.heap.size, 0, none⟩) 0 0) ∧ Below w.heap.size w w' := by
  obtain ⟨i0, hi, hz0, hz1, hz2⟩ := info_parts Tryf.info52
  have hmk := run_make (P := Tryf.prog) w 30 52 i0 (.agg #[.int .i64 0, .int .i64 0]) Tryf.underlying30 hi hz0 .i64 .i64 0 0 (by omega) (by omega) (by omega) (by omega)
  simp only [hz1, Int.toNat_zero, Nat.zero_mul] at hmk
  have heq := Go.Lib.run_eql_slice_nil (P := Tryf.prog) w 27 43 (some a) 0 c 0 0 Tryf.underlying27
  have hB := (Below.refl w.heap.size w).alloc (Nat.le_refl _) (.cells (madeCells (Value.agg #[.int .i64 0, .int .i64 0]).cells 0) 52)
  go_enter Tryf.func9, Tryf.ntmps9
  go_wp2_with fail
  go_loopg [12] 0 (fun g x wr => x = .int .i64 0 ∧ Below w.heap.size w wr)
  case atStart => exact ⟨rfl, hB⟩
  case round =>
    obtain ⟨rfl, hB'⟩ := hrel
    go_wp2_with fail
    go_ret
    exact ⟨rfl, hB'⟩

theorem toAcc_any (A : Option Addr) (b off c : Nat) (l : List (Int × Int)) (w : World) (h : IPAt w b off l) (hA : 0 < l.length → A = some ⟨b, off, none⟩) (hl : l.length ≤ 1048576) :
    Calls Tryf.prog 9 #[.slice A l.length c] w fun e w' => ∃ A' c', e = .returned (.slice A' l.length c') ∧ (0 < l.length → A' = some ⟨w.heap.size, 0, none⟩) ∧ IPAt w' w.heap.size 0 l ∧ Below w.heap.size w w' := by
  by_cases e : 0 < l.length
  · obtain rfl := hA e
    refine (toAcc_some b off c l w h (Or.inr (block_lt_of_cell (h 0 e).1)) hl).mono ?_
    rintro e w' ⟨rfl, hB, hr, _⟩
    exact ⟨_, _, rfl, fun _ => rfl, ipAt_of_row hr, hB⟩
  · have h0 : l.length = 0 := by omega
    rw [h0]
    cases A with
    | none =>
      refine (toAcc_nil c w).mono ?_
      rintro e w' ⟨rfl, rfl⟩
      exact ⟨none, 0, rfl, fun e => absurd e (Nat.lt_irrefl _), fun i hi => by omega, Below.refl _ _⟩
    | some a =>
      refine (toAcc_zero a c w).mono ?_
      rintro e w' ⟨rfl, hB⟩
      exact ⟨_, _, rfl, fun e => absurd e (Nat.lt_irrefl _), fun i hi => by omega, hB⟩

/-- The graph that the law makes. -/
theorem made_graph {w w1 : World} {n t s : Int} {A' : Option Addr} {k c' : Nat} {l : List (Int × Int)} (hB1 : Below w.heap.size w w1) (h1 : IPAt w1 w.heap.size 0 l) (o : Obj) (ho : o = .cells #[.int .i64 n, .int .i64 t, .int .i64 s, .slice A' k c'] 33) :
    AGAt (w1.alloc o) w1.heap.size n t s (.slice A' k c') ∧ Below w.heap.size w (w1.alloc o) ∧ IPAt (w1.alloc o) w.heap.size 0 l := by
  subst ho
  have T2 : Turns (fun _ => False) w1 (w1.alloc (.cells #[.int .i64 n, .int .i64 t, .int .i64 s, .slice A' k c'] 33)) := (Turns.refl _ w1).alloc _
  refine ⟨?_, hB1.trans (T2.below (fun _ _ e => e.elim) hB1.size), fun i hi => ?_⟩
  · exact World.rowIs_alloc w1 #[.int .i64 n, .int .i64 t, .int .i64 s, .slice A' k c'] 33 _ (fun i hi => by
      have : i = 0 ∨ i = 1 ∨ i = 2 ∨ i = 3 := by simp at hi; omega
      rcases this with rfl | rfl | rfl | rfl <;> rfl)
  · obtain ⟨y1, y2⟩ := h1 i hi
    have hlt : w.heap.size < w1.heap.size := block_lt_of_cell y1
    have hblk := T2.block w.heap.size hlt (fun e => e)
    exact ⟨(World.cell?_of_block (a := ⟨w.heap.size, 0 + i * 2, none⟩) hblk).trans y1, (World.cell?_of_block (a := ⟨w.heap.size, 0 + i * 2 + 1, none⟩) hblk).trans y2⟩

set_option maxRecDepth 1000000 in
set_option maxHeartbeats 4000000 in
theorem law4_long (n t s p : Int) (A : Option Addr) (k c : Nat) (w : World) (hl : 65536 < k) :
    Calls Tryf.prog 4 #[.int .i64 n, .int .i64 t, .int .i64 s, .slice A k c, .int .i64 p] w fun e w' => e = .returned (.bool true) ∧ Below w.heap.size w w' := by
  by_cases hk : 1048576 < k
  · have kB := zzBytes_no n t s p A k c w hk
    go_enter Tryf.func4, Tryf.ntmps4
    go_wp2_with (go_at_call 8; refine kB.mono ?_; rintro e w' ⟨rfl, rfl⟩)
    go_ret
    exact ⟨rfl, Below.refl _ _⟩
  · have kB := zzBytes_any n t s p A k c w (by omega)
    have hlz : (65536 : Int) < (k : Int) := by omega
    go_enter Tryf.func4, Tryf.ntmps4
    go_wp2_with (go_at_call 8; refine kB.mono ?_; rintro e w' ⟨rfl, rfl⟩)
    go_ret
    exact ⟨rfl, Below.refl _ _⟩

set_option maxRecDepth 1000000 in
set_option maxHeartbeats 4000000 in
theorem law4_bad (F : Interp) (n t s p : Int) (A : Option Addr) (b off c : Nat) (l : List (Int × Int)) (w : World) (hF : F.answers w.tape) (hA : 0 < l.length → A = some ⟨b, off, none⟩) (h : IPAt w b off l) (hl : l.length ≤ 65536)
    (hbad : ¬ ((headOk n t s ∧ allOk n l) ∧ 1 ≤ p ∧ p ≤ n)) :
    Calls Tryf.prog 4 #[.int .i64 n, .int .i64 t, .int .i64 s, .slice A l.length c, .int .i64 p] w fun e w' => e = .returned (.bool true) ∧ Below w.heap.size w w' := by
  have kB := zzBytes_any n t s p A l.length c w (by omega)
  have kT := toAcc_any A b off c l w h hA (by omega)
  have hlz : ¬ ((65536 : Int) < (l.length : Int)) := by omega
  have hbl : ∀ i, i < l.length → b < w.heap.size := fun i hi => block_lt_of_cell (h i hi).1
  have hbadK := Kept.of hbad
  clear hbad
  go_enter Tryf.func4, Tryf.ntmps4
  go_wp2_with (first | (go_at_call 8; refine kB.mono ?_; rintro e w' ⟨rfl, hw⟩; rw [hw]; clear hw) | (go_at_call 9; refine kT.mono ?_; rintro e w1 ⟨A', c', rfl, hA', h1, hB1⟩))
  clear kB kT
  obtain ⟨g2, hB2, h2⟩ := made_graph (n := n) (t := t) (s := s) (A' := A') (k := l.length) (c' := c') hB1 h1 _ rfl
  generalize w1.alloc (.cells #[.int .i64 n, .int .i64 t, .int .i64 s, .slice A' l.length c'] 33) = X2 at g2 hB2 h2 ⊢
  have hF2 : F.answers X2.tape := by rw [hB2.tape]; exact hF
  refine (view_no F w1.heap.size n t s p A' w.heap.size c' l X2 hF2 g2 hA' h2 (by omega) hbadK).mono ?_
  rintro e w3 ⟨⟨a, rfl⟩, hb3⟩
  have hB3 : Below w.heap.size w w3 := hB2.trans (hb3.mono hB2.size)
  have h3 : IPAt w3 b off l := fun i hi => by
    obtain ⟨y1, y2⟩ := h i hi
    exact ⟨(hB3.cell (p := ⟨b, off + i * 2, none⟩) (hbl i hi)).trans y1, (hB3.cell (p := ⟨b, off + i * 2 + 1, none⟩) (hbl i hi)).trans y2⟩
  clear hB2 h2 g2 hb3 h1 hB1 hA' hF2
  by_cases hh : headOk n t s
  · have kV := valid_any n t s A b off c l w3 hh hA h3 (by omega)
    replace hh := Kept.of hh
    cases hvb : validB n l with
    | false =>
      rw [hvb] at kV
      clear hvb
      go_wp2_with (go_at_call 11; refine kV.mono ?_; rintro e w' ⟨rfl, hw⟩; rw [hw]; clear hw)
      go_ret
      exact ⟨rfl, hB3⟩
    | true =>
      rw [hvb] at kV
      have hp : ¬ (1 ≤ p ∧ p ≤ n) := fun e => hbadK ⟨⟨hh, validB_true.1 hvb⟩, e⟩
      clear hvb
      by_cases hp1 : p < 1
      · go_wp2_with (go_at_call 11; refine kV.mono ?_; rintro e w' ⟨rfl, hw⟩; rw [hw]; clear hw)
        go_ret
        exact ⟨rfl, hB3⟩
      · have hp2 : n < p := by omega
        clear hp
        go_wp2_with (go_at_call 11; refine kV.mono ?_; rintro e w' ⟨rfl, hw⟩; rw [hw]; clear hw)
        go_ret
        exact ⟨rfl, hB3⟩
  · have kV := valid_head n t s (.slice A l.length c) w3 hh
    replace hh := Kept.of hh
    go_wp2_with (go_at_call 11; refine kV.mono ?_; rintro e w' ⟨rfl, hw⟩; rw [hw]; clear hw)
    go_ret
    exact ⟨rfl, hB3⟩

end Go.Proofs.Qxb6615834aFmt
