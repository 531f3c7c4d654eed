/-
  pruneGraph's closure lower: the walk.
-/
import Derived.Test.Qxb6615834aFmtGraph
import Derived.OwnWalk
import Derived.Laws.AppendOwn
import Derived.Maps.AppendAt
import Derived.WalkSmall
namespace Go.Proofs.Qxb6615834aFmt
open Go.RowKit Go.Deep

/-- Nothing has turned but blocks of L and what is new. -/
structure Turns (L : Nat → Prop) (w w' : World) : Prop where
  os : w'.os = w.os
  tape : w'.tape = w.tape
  output : w'.output = w.output
  size : w.heap.size ≤ w'.heap.size
  block : ∀ k, k < w.heap.size → ¬ L k → w'.heap[k]? = w.heap[k]?

namespace Turns
variable {L M : Nat → Prop} {w w' w'' : World}
theorem refl (L : Nat → Prop) (w : World) : Turns L w w := ⟨rfl, rfl, rfl, Nat.le_refl _, fun _ _ _ => rfl⟩
theorem trans (h : Turns L w w') (k : Turns L w' w'') : Turns L w w'' :=
  ⟨k.os.trans h.os, k.tape.trans h.tape, k.output.trans h.output, Nat.le_trans h.size k.size, fun i hi hl => (k.block i (Nat.lt_of_lt_of_le hi h.size) hl).trans (h.block i hi hl)⟩
theorem mono (h : Turns L w w') (hl : ∀ k, k < w.heap.size → L k → M k) : Turns M w w' := ⟨h.os, h.tape, h.output, h.size, fun k hk hm => h.block k hk (fun e => hm (hl k hk e))⟩
theorem setCell (h : Turns L w w') {a : Addr} (ha : L a.block) (v : Value) : Turns L w (w'.setCell a v) :=
  h.trans ⟨rfl, rfl, rfl, by simp, fun k _ hl => blk_setCell_other _ _ _ _ (fun e => hl (e ▸ ha))⟩
theorem alloc (h : Turns L w w') (o : Obj) : Turns L w (w'.alloc o) :=
  h.trans ⟨rfl, rfl, rfl, by simp, fun k hk _ => blk_alloc_lt _ _ _ hk⟩
theorem drew (h : Turns L w w') : Turns L w w'.drew := ⟨h.os, h.tape, h.output, h.size, h.block⟩
theorem drewN (h : Turns L w w') (q : Nat) : Turns L w (w'.drewN q) := ⟨h.os, h.tape, h.output, h.size, h.block⟩
theorem grown (h : Turns L w w') {row : Option Nat} (hg : w'.grownBy w'' row) (hr : ∀ k, row = some k → L k) : Turns L w w'' :=
  h.trans ⟨hg.os, hg.tape, hg.output, hg.size, fun k hk hl => hg.block k hk (fun e => hl (hr k e.symm))⟩
theorem row (h : Turns L w w') {b t n : Nat} {f : Nat → Value} (r : w.rowIs b t n f) (hb : ¬ L b) : w'.rowIs b t n f := r.of_block (h.block b r.lt hb)
theorem owns (h : Turns L w w') {base : Nat} {e : TypeId} {size : Nat} {v : Value} {n : Nat} {xs : List Value} (r : w.ownsRow base e size v n xs) (hb : ∀ k, v.ownBlock = some k → ¬ L k) : w'.ownsRow base e size v n xs := by
  obtain ⟨hl, h0 | ⟨g, cap, cur, rfl, h1, h2, h3⟩⟩ := r
  · exact ⟨hl, Or.inl h0⟩
  · exact ⟨hl, Or.inr ⟨g, cap, cur, rfl, h1, (h.block g (by obtain ⟨hlt, _⟩ := Array.getElem?_eq_some_iff.1 h2; exact hlt) (hb g rfl)).trans h2, h3⟩⟩
theorem below (h : Turns L w w') {B : Nat} (hl : ∀ k, k < w.heap.size → L k → B ≤ k) (hB : B ≤ w.heap.size) : Below B w w' :=
  ⟨h.os, h.tape, h.output, h.size, fun k hk => h.block k (by omega) (fun e => by have := hl k (by omega) e; omega)⟩
end Turns

/-- The pairs' cells, one after the other. -/
def pairCells (l : List (Nat × Nat)) : List Value := l.flatMap fun p => [.int .i64 ((p.1 : Int) + 1), .int .i64 ((p.2 : Int) + 1)]
theorem pairCells_append (l l' : List (Nat × Nat)) : pairCells (l ++ l') = pairCells l ++ pairCells l' := by simp [pairCells]
theorem pairCells_length (l : List (Nat × Nat)) : (pairCells l).length = l.length * 2 := by
  induction l with
  | nil => rfl
  | cons p l ih =>
    have : pairCells (p :: l) = [.int .i64 ((p.1 : Int) + 1), .int .i64 ((p.2 : Int) + 1)] ++ pairCells l := rfl
    rw [this, List.length_append, ih]
    simp
    omega

/-- The blocks that lower looks at, apart from one another. -/
structure LowB (b13 bC b3 b12 b14 base : Nat) : Prop where
  l13 : b13 < base
  lC : bC < base
  l3 : b3 < base
  l12 : b12 < base
  l14 : b14 < base
  cC13 : bC ≠ b13
  cC3 : bC ≠ b3
  cC12 : bC ≠ b12
  cC14 : bC ≠ b14
  c1413 : b14 ≠ b13
  c143 : b14 ≠ b3
  c1412 : b14 ≠ b12

structure LowAt (w : World) (b13 bC b3 b12 b14 base n h : Nat) (Cf : Nat → Int) (fv : Value) (fl : List (Nat × Nat)) : Prop where
  c13 : w.rowIs b13 71 1 (fun _ => .slice (some ⟨bC, 0, none⟩) (n * n) (n * n))
  cC : w.rowIs bC 21 (n * n) (fun k => .int .i32 (Cf k))
  n3 : w.rowIs b3 3 1 (fun _ => .int .i64 (n : Int))
  h12 : w.rowIs b12 3 1 (fun _ => .int .i64 (h : Int))
  f14 : w.rowIs b14 27 1 (fun _ => fv)
  ff : w.ownsRow base 43 2 fv fl.length (pairCells fl)

def lowC (Cf : Nat → Int) (k : Nat) : Nat → Int := fun j => if j = k then Cf k - 1 else Cf j
def lowF (Cf : Nat → Int) (h : Nat) (fl : List (Nat × Nat)) (k x y : Nat) : List (Nat × Nat) := if Cf k = (h : Int) then fl ++ [(x, y)] else fl

theorem Tryf.info43 : (Tryf.prog.info? 43).map (fun i => (i.zero, i.size, i.bytes)) = some (some (.agg #[.int .i64 0, .int .i64 0]), 2, 16) := by kernel_rfl

theorem LowAt.store {w : World} {b13 bC b3 b12 b14 base n h : Nat} {Cf : Nat → Int} {fv : Value} {fl : List (Nat × Nat)} (hl : LowAt w b13 bC b3 b12 b14 base n h Cf fv fl) (hB : LowB b13 bC b3 b12 b14 base) (k : Nat) :
    LowAt (w.setCell ⟨bC, k, none⟩ (.int .i32 (Cf k - 1))) b13 bC b3 b12 b14 base n h (lowC Cf k) fv fl := by
  have T : Turns (fun j => j = bC) w (w.setCell ⟨bC, k, none⟩ (.int .i32 (Cf k - 1))) := (Turns.refl (fun j => j = bC) w).setCell (a := ⟨bC, k, none⟩) rfl _
  refine ⟨T.row hl.c13 (fun e => hB.cC13 e.symm), (hl.cC.set k _).congr fun i _ => ?_, T.row hl.n3 (fun e => hB.cC3 e.symm), T.row hl.h12 (fun e => hB.cC12 e.symm), T.row hl.f14 (fun e => hB.cC14 e.symm), T.owns hl.ff (fun g hg e => ?_)⟩
  · by_cases e : i = k
    · simp [e, lowC]
    · simp [e, lowC]
  · have := (hl.ff.lt g hg).1
    have := hB.lC
    omega

theorem LowAt.drewN {w : World} {b13 bC b3 b12 b14 base n h : Nat} {Cf : Nat → Int} {fv : Value} {fl : List (Nat × Nat)} (hl : LowAt w b13 bC b3 b12 b14 base n h Cf fv fl) (q : Nat) : LowAt (w.drewN q) b13 bC b3 b12 b14 base n h Cf fv fl :=
  ⟨hl.c13, hl.cC, hl.n3, hl.h12, hl.f14, hl.ff⟩

/-- What lower does, said of the worlds. -/
def Lowered (w w' : World) (b13 bC b3 b12 b14 base n h : Nat) (Cf : Nat → Int) (fv : Value) (fl : List (Nat × Nat)) (k x y : Nat) : Prop :=
  ∃ fv', LowAt w' b13 bC b3 b12 b14 base n h (lowC Cf k) fv' (lowF Cf h fl k x y) ∧ Turns (fun j => j = bC ∨ j = b14 ∨ fv.ownBlock = some j) w w' ∧
    (fv'.ownBlock = fv.ownBlock ∨ ∃ g, fv'.ownBlock = some g ∧ w.heap.size ≤ g)

theorem LowAt.appended {w W2 w1 : World} {b13 bC b3 b12 b14 base n h : Nat} {Cf : Nat → Int} {fv : Value} {fl : List (Nat × Nat)} {k x y g cap : Nat} {o : Obj}
    (L2 : LowAt W2 b13 bC b3 b12 b14 base n h (lowC Cf k) fv fl) (hB : LowB b13 bC b3 b12 b14 base) (T2 : Turns (fun j => j = bC ∨ j = b14 ∨ fv.ownBlock = some j) w W2) (T3 : Turns (fun j => fv.ownBlock = some j) W2 w1)
    (r14 : w1.rowIs b14 27 1 (fun _ => fv)) (hown : w1.ownsRow base 43 2 (.slice (some ⟨g, 0, none⟩) (fl.length + 1) cap) (fl.length + 1) (pairCells fl ++ [.int .i64 ((x : Int) + 1), .int .i64 ((y : Int) + 1)]))
    (hat : (Value.slice (some ⟨g, 0, none⟩) (fl.length + 1) cap).ownBlock = fv.ownBlock ∨ (Value.slice (some ⟨g, 0, none⟩) (fl.length + 1) cap).ownBlock = some (W2.alloc o).heap.size) (he : Cf k = (h : Int)) :
    Lowered w (w1.setCell ⟨b14, 0, none⟩ (.slice (some ⟨g, 0, none⟩) (fl.length + 1) cap)) b13 bC b3 b12 b14 base n h Cf fv fl k x y := by
  have hne : ∀ b, b < base → fv.ownBlock ≠ some b := fun b hb e => by have := (L2.ff.lt b e).1; omega
  have T4 : Turns (fun j => j = b14 ∨ fv.ownBlock = some j) W2 (w1.setCell ⟨b14, 0, none⟩ (.slice (some ⟨g, 0, none⟩) (fl.length + 1) cap)) :=
    (T3.mono (M := fun j => j = b14 ∨ fv.ownBlock = some j) fun _ _ e => Or.inr e).setCell (a := ⟨b14, 0, none⟩) (Or.inl rfl) _
  have hg := (hown.lt g rfl).1
  have hl14 := hB.l14
  refine ⟨.slice (some ⟨g, 0, none⟩) (fl.length + 1) cap, ⟨T4.row L2.c13 ?_, T4.row L2.cC ?_, T4.row L2.n3 ?_, T4.row L2.h12 ?_, (r14.set 0 _).congr fun i hi => ?_, ?_⟩, T2.trans (T4.mono fun _ _ e => Or.inr e), ?_⟩
  · rintro (e | e)
    · exact hB.c1413 e.symm
    · exact hne _ hB.l13 e
  · rintro (e | e)
    · exact hB.cC14 e
    · exact hne _ hB.lC e
  · rintro (e | e)
    · exact hB.c143 e.symm
    · exact hne _ hB.l3 e
  · rintro (e | e)
    · exact hB.c1412 e.symm
    · exact hne _ hB.l12 e
  · have : i = 0 := by omega
    simp [this]
  · have T5 : Turns (fun j => j = b14) w1 (w1.setCell ⟨b14, 0, none⟩ (.slice (some ⟨g, 0, none⟩) (fl.length + 1) cap)) := (Turns.refl (fun j => j = b14) w1).setCell (a := ⟨b14, 0, none⟩) rfl _
    have h5 := T5.owns hown (fun k hk e => by
      have : g = k := by simpa [Value.ownBlock] using hk
      omega)
    rw [lowF, if_pos he, pairCells_append, List.length_append]
    exact h5
  · rcases hat with e | e
    · exact Or.inl e
    · refine Or.inr ⟨_, e, ?_⟩
      have := T2.size
      simp
      omega

set_option maxRecDepth 100000 in
set_option maxHeartbeats 4000000 in
theorem lower_any (b13 bC b3 b12 b14 base n h x y u v : Nat) (Cf : Nat → Int) (fv : Value) (fl : List (Nat × Nat)) (w : World) (hB : LowB b13 bC b3 b12 b14 base) (hbase : base ≤ w.heap.size)
    (hl : LowAt w b13 bC b3 b12 b14 base n h Cf fv fl) (hn : n ≤ 1024) (hh : 0 < h ∧ h ≤ 1024) (hxy : x < y) (hy : y < n) (huv : (u = x ∧ v = y) ∨ (u = y ∧ v = x))
    (hC : -100000 ≤ Cf (x * n + y) ∧ Cf (x * n + y) ≤ 100000) (hfl : fl.length ≤ 100000000) :
    Calls Tryf.prog 36 #[.int .i64 ((u : Int) + 1), .int .i64 ((v : Int) + 1), .pointer (some ⟨b13, 0, none⟩), .pointer (some ⟨b3, 0, none⟩), .pointer (some ⟨b12, 0, none⟩), .pointer (some ⟨b14, 0, none⟩)] w
      fun e w' => e = .returned (.tuple #[]) ∧ Lowered w w' b13 bC b3 b12 b14 base n h Cf fv fl (x * n + y) x y := by
  obtain ⟨i0, hi, hz0, hz1, hz2⟩ := info_parts Tryf.info43
  obtain ⟨p, hp⟩ : ∃ p, x * n = p := ⟨_, rfl⟩
  have hpn : p + n ≤ n * n := by
    rw [← hp, ← Nat.succ_mul]
    exact Nat.mul_le_mul_right _ (by omega)
  have hnn : n * n ≤ 1048576 := Nat.mul_le_mul hn hn
  have hpi : (x : Int) * (n : Int) = (p : Int) := by rw [← hp]; simp
  rw [hp] at hC ⊢
  have c13 := hl.c13.cell (i := 0) (by omega)
  have c3 := hl.n3.cell (i := 0) (by omega)
  have c12 := hl.h12.cell (i := 0) (by omega)
  have c14 := hl.f14.cell (i := 0) (by omega)
  have f14 := hl.f14.frozen 0
  have cC := hl.cC.cell (i := p + y) (by omega)
  have fC := hl.cC.frozen (p + y)
  have hkN : p + y < n * n := by omega
  generalize hNN : n * n = nn at *
  generalize hW1 : w.setCell ⟨bC, p + y, none⟩ (.int .i32 (Cf (p + y) - 1)) = W1
  have T1 : Turns (fun j => j = bC ∨ j = b14 ∨ fv.ownBlock = some j) w W1 := by rw [← hW1]; exact (Turns.refl _ w).setCell (Or.inl rfl) _
  have L1 : LowAt W1 b13 bC b3 b12 b14 base n h (lowC Cf (p + y)) fv fl := by rw [← hW1]; exact hl.store hB (p + y)
  clear hl
  have d13 := L1.c13.cell (i := 0) (by omega)
  have d3 := L1.n3.cell (i := 0) (by omega)
  have d12 := L1.h12.cell (i := 0) (by omega)
  have dC := L1.cC.cell (i := p + y) (by omega)
  have dv : lowC Cf (p + y) (p + y) = Cf (p + y) - 1 := by simp [lowC]
  rw [dv] at dC
  rw [hNN] at d13
  have hi64 : ((h : Int) - 1 + 2147483648) % 4294967296 - 2147483648 = (h : Int) - 1 := by omega
  have hne : ∀ b, b < base → fv.ownBlock ≠ some b := fun b hb e => by have := (L1.ff.lt b e).1; omega
  rcases huv with ⟨rfl, rfl⟩ | ⟨rfl, rfl⟩
  · go_enter Tryf.func36, Tryf.ntmps36
    go_wp2_with fail
    clear hW1 c13 c3 c12 c14 f14 cC fC
    go_quiet (fail)
    by_cases he : Cf (p + v) = (h : Int)
    · obtain ⟨W2, hW2⟩ : ∃ W2, W1.drewN nq = W2 := ⟨_, rfl⟩
      have T2 : Turns (fun j => j = bC ∨ j = b14 ∨ fv.ownBlock = some j) w W2 := by rw [← hW2]; exact T1.drewN nq
      have L2 : LowAt W2 b13 bC b3 b12 b14 base n h (lowC Cf (p + v)) fv fl := by rw [← hW2]; exact L1.drewN nq
      rw [hW2]
      clear hW2 L1 T1 d13 d3 d12 dC
      have c14 := L2.f14.cell (i := 0) (by omega)
      have hsz := T2.size
      go_wp2_with (at_builtin; refine wpList_append_own_at _ rfl _ _ 27 rfl base 43 i0 (.agg #[.int .i64 0, .int .i64 0]) 2 16 Tryf.underlying27 hi hz0 hz1 hz2 rfl (by decide) _ _ _ rfl (L2.ff.alloc _) ⟨W2.heap.size, 0, none⟩ 1 1 [.int .i64 ((u : Int) + 1), .int .i64 ((v : Int) + 1)] rfl rfl (cell_two_new _ _ _ _) (by simp [Value.oneCell']) (by unfold maxLen; omega) (by omega) (by simp; omega) ?_; intro v' w1 hown' hgrow _ hat; obtain ⟨g', cap', rfl⟩ := ownsRow_succ hown'; have T3 : Turns (fun j => fv.ownBlock = some j) W2 w1 := ((Turns.refl _ W2).alloc _).grown hgrow (fun k e => e); have r14 := T3.row L2.f14 (hne b14 hB.l14); have c14' := r14.cell (i := 0) (by omega); have f14' := r14.frozen 0)
      go_end0
      exact ⟨rfl, L2.appended hB T2 T3 r14 hown' hat he⟩
    · go_wp2_with fail
      go_end0
      exact ⟨rfl, fv, by rw [lowF, if_neg he]; exact L1.drewN nq, T1.drewN nq, Or.inl rfl⟩
  · go_enter Tryf.func36, Tryf.ntmps36
    go_wp2_with fail
    clear hW1 c13 c3 c12 c14 f14 cC fC
    go_quiet (fail)
    by_cases he : Cf (p + u) = (h : Int)
    · obtain ⟨W2, hW2⟩ : ∃ W2, W1.drewN nq = W2 := ⟨_, rfl⟩
      have T2 : Turns (fun j => j = bC ∨ j = b14 ∨ fv.ownBlock = some j) w W2 := by rw [← hW2]; exact T1.drewN nq
      have L2 : LowAt W2 b13 bC b3 b12 b14 base n h (lowC Cf (p + u)) fv fl := by rw [← hW2]; exact L1.drewN nq
      rw [hW2]
      clear hW2 L1 T1 d13 d3 d12 dC
      have c14 := L2.f14.cell (i := 0) (by omega)
      have hsz := T2.size
      go_wp2_with (at_builtin; refine wpList_append_own_at _ rfl _ _ 27 rfl base 43 i0 (.agg #[.int .i64 0, .int .i64 0]) 2 16 Tryf.underlying27 hi hz0 hz1 hz2 rfl (by decide) _ _ _ rfl (L2.ff.alloc _) ⟨W2.heap.size, 0, none⟩ 1 1 [.int .i64 ((v : Int) + 1), .int .i64 ((u : Int) + 1)] rfl rfl (cell_two_new _ _ _ _) (by simp [Value.oneCell']) (by unfold maxLen; omega) (by omega) (by simp; omega) ?_; intro v' w1 hown' hgrow _ hat; obtain ⟨g', cap', rfl⟩ := ownsRow_succ hown'; have T3 : Turns (fun j => fv.ownBlock = some j) W2 w1 := ((Turns.refl _ W2).alloc _).grown hgrow (fun k e => e); have r14 := T3.row L2.f14 (hne b14 hB.l14); have c14' := r14.cell (i := 0) (by omega); have f14' := r14.frozen 0)
      go_end0
      exact ⟨rfl, L2.appended hB T2 T3 r14 hown' hat he⟩
    · go_wp2_with fail
      go_end0
      exact ⟨rfl, fv, by rw [lowF, if_neg he]; exact L1.drewN nq, T1.drewN nq, Or.inl rfl⟩

end Go.Proofs.Qxb6615834aFmt
