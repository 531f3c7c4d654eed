/-
  pruneGraph: what lies in memory while the counts and the work list are kept.
-/
import Derived.Test.Qxb6615834aFmtPg1
namespace Go.Proofs.Qxb6615834aFmt
open Go.RowKit Go.Deep

/-- Every block of cells lies as it lay. -/
def KC (W W' : World) : Prop := ∀ (k : Nat) (o : Obj), W.heap[k]? = some o → o.isCells = true → W'.heap[k]? = some o

theorem KC.row {W W' : World} (hk : KC W W') {b t n : Nat} {f : Nat → Value} (h : W.rowIs b t n f) : W'.rowIs b t n f := by
  obtain ⟨c, hc, r⟩ := h
  exact ⟨c, hk b _ hc rfl, r⟩

theorem KC.owns {W W' : World} (hk : KC W W') {base : Nat} {e : TypeId} {size : Nat} {v : Value} {n : Nat} {xs : List Value} (r : W.ownsRow base e size v n xs) : W'.ownsRow base e size v n xs := by
  obtain ⟨hl, h0 | ⟨g, cap, cur, rfl, h1, h2, h3⟩⟩ := r
  · exact ⟨hl, Or.inl h0⟩
  · exact ⟨hl, Or.inr ⟨g, cap, cur, rfl, h1, hk g _ h2 rfl, h3⟩⟩

theorem KC.grown {W W' : World} {row : Option Nat} (hg : W.grownBy W' row) (hr : ∀ r, row = some r → ∃ o : Obj, W.heap[r]? = some o ∧ o.isCells = false) : KC W W' := fun k o hk ho => by
  rw [hg.block k (Array.getElem?_eq_some_iff.1 hk).1 (fun e => ?_)]
  · exact hk
  · obtain ⟨o', h1, h2⟩ := hr k e.symm
    rw [hk] at h1
    cases h1
    rw [ho] at h2
    cases h2

theorem KC.low {W W' : World} (hk : KC W W') {b13 bC b3 b12 b14 base n h : Nat} {Cf : Nat → Int} {fv : Value} {fl : List (Nat × Nat)} (l : LowAt W b13 bC b3 b12 b14 base n h Cf fv fl) : LowAt W' b13 bC b3 b12 b14 base n h Cf fv fl :=
  ⟨hk.row l.c13, hk.row l.cC, hk.row l.n3, hk.row l.h12, hk.row l.f14, hk.owns l.ff⟩

theorem KC.nb {W W' : World} (hk : KC W W') {bN n m : Nat} {B : Nat → Nat} {N : Nat → Nat → Bool} (l : NbAt W bN n m B N) : NbAt W' bN n m B N :=
  ⟨hk.row l.top, fun p hp => hk.row (l.rows p hp), l.apart, l.inj⟩

structure PS (w0 : World) (H K n m h : Nat) (N : Nat → Nat → Bool) (Cf : Nat → Int) (pv fv : Value) (pr fl : List (Nat × Nat)) (W : World) : Prop where
  below : Below H w0 W
  g7 : W.rowIs (H + 4) 54 1 (fun _ => .pointer (some ⟨H + 3, 0, none⟩))
  gG : GAt W (H + 3) (H + 1) n pv
  nb : NbAt W (H + 1) n m (fun p => H + 5 + p) N
  low : LowAt W (K + 2) (K + 1) H K (K + 3) (K + 4) n h Cf fv fl
  own : W.ownsRow (H + 2) 43 2 pv pr.length (pairCells pr)
  pvB : ∀ g, pv.ownBlock = some g → g = H + 2 ∨ K + 4 ≤ g
  apart : ∀ g, pv.ownBlock = some g → fv.ownBlock ≠ some g
  size : K + 4 ≤ W.heap.size

section
variable {w0 W W' : World} {H K n m h : Nat} {N : Nat → Nat → Bool} {Cf : Nat → Int} {pv fv : Value} {pr fl : List (Nat × Nat)}

theorem PS.lowB (hK : H + 5 + n ≤ K) : LowB (K + 2) (K + 1) H K (K + 3) (K + 4) := by
  refine ⟨?_, ?_, ?_, ?_, ?_, ?_, ?_, ?_, ?_, ?_, ?_, ?_⟩ <;> omega

theorem PS.kc (s : PS w0 H K n m h N Cf pv fv pr fl W) (hb : Below H W W') (hk : KC W W') : PS w0 H K n m h N Cf pv fv pr fl W' :=
  ⟨s.below.trans hb, hk.row s.g7, hk.row s.gG, hk.nb s.nb, hk.low s.low, hk.owns s.own, s.pvB, s.apart, Nat.le_trans s.size hb.size⟩

theorem PS.turns {L : Nat → Prop} (s : PS w0 H K n m h N Cf pv fv pr fl W) (hK : H + 5 + n ≤ K) (T : Turns L W W') (hL : ∀ k, L k → K + 4 ≤ k ∧ pv.ownBlock ≠ some k ∧ fv.ownBlock ≠ some k) : PS w0 H K n m h N Cf pv fv pr fl W' := by
  have hno : ∀ k, k < K + 4 → ¬ L k := fun k hk e => by have := (hL k e).1; omega
  have hs := s.size
  refine ⟨s.below.trans (T.below (fun k _ e => by have := (hL k e).1; omega) (by omega)), T.row s.g7 (hno _ (by omega)), T.row s.gG (hno _ (by omega)), s.nb.of_blocks (T.block _ s.nb.top.lt (hno _ (by omega))) (fun p hp => T.block _ (World.rowIs.lt (s.nb.rows p hp)) (hno _ (by omega))),
    ⟨T.row s.low.c13 (hno _ (by omega)), T.row s.low.cC (hno _ (by omega)), T.row s.low.n3 (hno _ (by omega)), T.row s.low.h12 (hno _ (by omega)), T.row s.low.f14 (hno _ (by omega)), T.owns s.low.ff (fun k hk e => (hL k e).2.2 hk)⟩,
    T.owns s.own (fun k hk e => (hL k e).2.1 hk), s.pvB, s.apart, Nat.le_trans s.size T.size⟩

theorem PS.still (s : PS w0 H K n m h N Cf pv fv pr fl W) (hK : H + 5 + n ≤ K) (T : Turns (fun _ => False) W W') : PS w0 H K n m h N Cf pv fv pr fl W' := s.turns hK T (fun _ e => e.elim)

/-- lower has been called. -/
theorem PS.lowered {k x y : Nat} (s : PS w0 H K n m h N Cf pv fv pr fl W) (hK : H + 5 + n ≤ K) (l : Lowered W W' (K + 2) (K + 1) H K (K + 3) (K + 4) n h Cf fv fl k x y) :
    ∃ fv', PS w0 H K n m h N (lowC Cf k) pv fv' pr (lowF Cf h fl k x y) W' ∧ (∀ g, g < W.heap.size → fv.ownBlock ≠ some g → fv'.ownBlock ≠ some g) ∧ Turns (fun j => j = K + 1 ∨ j = K + 3 ∨ fv.ownBlock = some j) W W' := by
  obtain ⟨fv', l1, T, hat⟩ := l
  have hs := s.size
  have hfv : ∀ j, fv.ownBlock = some j → K + 4 ≤ j := fun j e => (s.low.ff.lt j e).1
  have hno : ∀ k, k < K + 4 → k ≠ K + 1 → k ≠ K + 3 → ¬ (k = K + 1 ∨ k = K + 3 ∨ fv.ownBlock = some k) := fun k hk h1 h2 e => by
    rcases e with e | e | e
    · exact h1 e
    · exact h2 e
    · have := hfv k e; omega
  have hnew : ∀ g, g < W.heap.size → fv.ownBlock ≠ some g → fv'.ownBlock ≠ some g := fun g hg h1 h2 => by
    rcases hat with e | ⟨g', e, hg'⟩
    · exact h1 (e ▸ h2)
    · rw [h2] at e
      cases e
      omega
  refine ⟨fv', ⟨s.below.trans (T.below (fun k _ e => by
      rcases e with e | e | e
      · omega
      · omega
      · have := hfv k e; omega) (by omega)), T.row s.g7 (hno _ (by omega) (by omega) (by omega)), T.row s.gG (hno _ (by omega) (by omega) (by omega)), s.nb.of_blocks (T.block _ s.nb.top.lt (hno _ (by omega) (by omega) (by omega))) (fun p hp => T.block _ (World.rowIs.lt (s.nb.rows p hp)) (hno _ (by omega) (by omega) (by omega))),
    l1, T.owns s.own (fun k hk e => ?_), s.pvB, fun g hg => hnew g (s.own.lt g hg).2 (s.apart g hg), Nat.le_trans s.size T.size⟩, hnew, T⟩
  rcases e with e | e | e
  · have := s.pvB k hk; omega
  · have := s.pvB k hk; omega
  · exact s.apart k hk e

/-- A count is stored. -/
theorem PS.store (s : PS w0 H K n m h N Cf pv fv pr fl W) (hK : H + 5 + n ≤ K) (k : Nat) (v : Int) : PS w0 H K n m h N (putI Cf k v) pv fv pr fl (W.setCell ⟨K + 1, k, none⟩ (.int .i32 v)) := by
  have T : Turns (fun j => j = K + 1) W (W.setCell ⟨K + 1, k, none⟩ (.int .i32 v)) := (Turns.refl (fun j => j = K + 1) W).setCell (a := ⟨K + 1, k, none⟩) rfl _
  have hs := s.size
  have hfv : ∀ j, fv.ownBlock = some j → K + 4 ≤ j := fun j e => (s.low.ff.lt j e).1
  refine ⟨s.below.trans (T.below (fun k _ e => by omega) (by omega)), T.row s.g7 (by omega), T.row s.gG (by omega), s.nb.of_blocks (T.block _ s.nb.top.lt (by omega)) (fun p hp => T.block _ (World.rowIs.lt (s.nb.rows p hp)) (by omega)),
    ⟨T.row s.low.c13 (by omega), (s.low.cC.set k _).congr fun i _ => ?_, T.row s.low.n3 (by omega), T.row s.low.h12 (by omega), T.row s.low.f14 (by omega), T.owns s.low.ff (fun j hj e => by have := hfv j hj; omega)⟩,
    T.owns s.own (fun j hj e => by have := s.pvB j hj; omega), s.pvB, s.apart, Nat.le_trans s.size T.size⟩
  unfold putI
  by_cases e : i = k
  · simp [e]
  · simp [e]

/-- The work list's box is written. -/
theorem PS.box {W2 : World} {fv' : Value} {fl' : List (Nat × Nat)} (s : PS w0 H K n m h N Cf pv fv pr fl W) (hK : H + 5 + n ≤ K) (T : Turns (fun j => fv.ownBlock = some j) W W2) (ho : W2.ownsRow (K + 4) 43 2 fv' fl'.length (pairCells fl'))
    (hat : ∀ g, fv'.ownBlock = some g → fv.ownBlock = some g ∨ W.heap.size ≤ g) : PS w0 H K n m h N Cf pv fv' pr fl' (W2.setCell ⟨K + 3, 0, none⟩ fv') := by
  have hfv : ∀ j, fv.ownBlock = some j → K + 4 ≤ j := fun j e => (s.low.ff.lt j e).1
  have hfv' : ∀ j, fv'.ownBlock = some j → K + 4 ≤ j := fun j e => (ho.lt j e).1
  have hs := s.size
  have hno : ∀ k, k < K + 4 → ¬ fv.ownBlock = some k := fun k hk e => by have := hfv k e; omega
  have T2 : Turns (fun j => j = K + 3 ∨ fv.ownBlock = some j) W (W2.setCell ⟨K + 3, 0, none⟩ fv') := (T.mono (M := fun j => j = K + 3 ∨ fv.ownBlock = some j) fun _ _ e => Or.inr e).setCell (a := ⟨K + 3, 0, none⟩) (Or.inl rfl) _
  have hno2 : ∀ k, k < K + 3 → ¬ (k = K + 3 ∨ fv.ownBlock = some k) := fun k hk e => by
    rcases e with e | e
    · omega
    · exact hno k (by omega) e
  have r14 := T.row s.low.f14 (hno (K + 3) (by omega))
  refine ⟨s.below.trans (T2.below (fun k _ e => by
      rcases e with e | e
      · omega
      · have := hfv k e; omega) (by omega)), T2.row s.g7 (hno2 _ (by omega)), T2.row s.gG (hno2 _ (by omega)), s.nb.of_blocks (T2.block _ s.nb.top.lt (hno2 _ (by omega))) (fun p hp => T2.block _ (World.rowIs.lt (s.nb.rows p hp)) (hno2 _ (by omega))),
    ⟨T2.row s.low.c13 (hno2 _ (by omega)), T2.row s.low.cC (hno2 _ (by omega)), T2.row s.low.n3 (hno2 _ (by omega)), T2.row s.low.h12 (hno2 _ (by omega)), (r14.set 0 _).congr fun i hi => ?_, ?_⟩,
    T2.owns s.own (fun k hk e => ?_), s.pvB, fun g hg e => ?_, Nat.le_trans s.size T2.size⟩
  · have : i = 0 := by omega
    simp [this]
  · have T3 : Turns (fun j => j = K + 3) W2 (W2.setCell ⟨K + 3, 0, none⟩ fv') := (Turns.refl (fun j => j = K + 3) W2).setCell (a := ⟨K + 3, 0, none⟩) rfl _
    exact T3.owns ho (fun k hk e => by have := hfv' k hk; omega)
  · rcases e with e | e
    · have := s.pvB k hk; omega
    · exact s.apart k hk e
  · have hlt := (s.own.lt g hg).2
    rcases hat g e with h1 | h1
    · exact s.apart g hg h1
    · omega

/-- An edge is cut. -/
theorem PS.cut {x y : Nat} (s : PS w0 H K n m h N Cf pv fv pr fl W) (hK : H + 5 + n ≤ K) (hx : x < n) (hy : y < n) : PS w0 H K n m h (cutN N x y) Cf pv fv pr fl (cutW W (fun p => H + 5 + p) N x y) := by
  have T : Turns (fun j => j = H + 5 + x ∨ j = H + 5 + y) W (cutW W (fun p => H + 5 + p) N x y) := by
    unfold cutW wrote
    exact ((((Turns.refl (fun j => j = H + 5 + x ∨ j = H + 5 + y) W).setCell (a := ⟨H + 5 + x, y / 64, none⟩) (Or.inl rfl) _).drew).setCell (a := ⟨H + 5 + y, x / 64, none⟩) (Or.inr rfl) _).drew
  have hs := s.size
  have hfv : ∀ j, fv.ownBlock = some j → K + 4 ≤ j := fun j e => (s.low.ff.lt j e).1
  refine ⟨s.below.trans (T.below (fun k _ e => by omega) (by omega)), T.row s.g7 (by omega), T.row s.gG (by omega), s.nb.cut x y hx hy,
    ⟨T.row s.low.c13 (by omega), T.row s.low.cC (by omega), T.row s.low.n3 (by omega), T.row s.low.h12 (by omega), T.row s.low.f14 (by omega), T.owns s.low.ff (fun k hk e => by have := hfv k hk; omega)⟩,
    T.owns s.own (fun k hk e => by have := s.pvB k hk; omega), s.pvB, s.apart, Nat.le_trans s.size T.size⟩

/-- The pruned list grows by one, and the graph's field is written. -/
theorem PS.push {W2 : World} {pv' : Value} {pr' : List (Nat × Nat)} (s : PS w0 H K n m h N Cf pv fv pr fl W) (hK : H + 5 + n ≤ K) (T : Turns (fun j => pv.ownBlock = some j) W W2) (ho : W2.ownsRow (H + 2) 43 2 pv' pr'.length (pairCells pr'))
    (hat : ∀ g, pv'.ownBlock = some g → pv.ownBlock = some g ∨ W.heap.size ≤ g) : PS w0 H K n m h N Cf pv' fv pr' fl (W2.setCell ⟨H + 3, 1, none⟩ pv') := by
  have hs := s.size
  have hpv : ∀ j, pv.ownBlock = some j → j = H + 2 ∨ K + 4 ≤ j := s.pvB
  have hno : ∀ k, k < K + 4 → k ≠ H + 2 → ¬ pv.ownBlock = some k := fun k hk h2 e => by have := hpv k e; omega
  have T2 : Turns (fun j => j = H + 3 ∨ pv.ownBlock = some j) W (W2.setCell ⟨H + 3, 1, none⟩ pv') := (T.mono (M := fun j => j = H + 3 ∨ pv.ownBlock = some j) fun _ _ e => Or.inr e).setCell (a := ⟨H + 3, 1, none⟩) (Or.inl rfl) _
  have hno2 : ∀ k, k < K + 4 → k ≠ H + 2 → k ≠ H + 3 → ¬ (k = H + 3 ∨ pv.ownBlock = some k) := fun k hk h2 h3 e => by
    rcases e with e | e
    · omega
    · exact hno k hk h2 e
  have hpv' : ∀ g, pv'.ownBlock = some g → g = H + 2 ∨ K + 4 ≤ g := fun g e => by
    rcases hat g e with h1 | h1
    · exact hpv g h1
    · omega
  have hfv : ∀ j, fv.ownBlock = some j → j < W.heap.size := fun j e => (s.low.ff.lt j e).2
  refine ⟨s.below.trans (T2.below (fun k _ e => by
      rcases e with e | e
      · omega
      · have := hpv k e; omega) (by omega)), T2.row s.g7 (hno2 _ (by omega) (by omega) (by omega)), GAt.put (T.row s.gG (hno _ (by omega) (by omega))) pv', s.nb.of_blocks (T2.block _ s.nb.top.lt (hno2 _ (by omega) (by omega) (by omega))) (fun p hp => T2.block _ (World.rowIs.lt (s.nb.rows p hp)) (hno2 _ (by omega) (by omega) (by omega))),
    ⟨T2.row s.low.c13 (hno2 _ (by omega) (by omega) (by omega)), T2.row s.low.cC (hno2 _ (by omega) (by omega) (by omega)), T2.row s.low.n3 (hno2 _ (by omega) (by omega) (by omega)), T2.row s.low.h12 (hno2 _ (by omega) (by omega) (by omega)), T2.row s.low.f14 (hno2 _ (by omega) (by omega) (by omega)), T2.owns s.low.ff (fun k hk e => ?_)⟩,
    ?_, hpv', fun g hg e => ?_, Nat.le_trans s.size T2.size⟩
  · rcases e with e | e
    · have := (s.low.ff.lt k hk).1; omega
    · exact s.apart k e hk
  · have T3 : Turns (fun j => j = H + 3) W2 (W2.setCell ⟨H + 3, 1, none⟩ pv') := (Turns.refl (fun j => j = H + 3) W2).setCell (a := ⟨H + 3, 1, none⟩) rfl _
    exact T3.owns ho (fun k hk e => by have := hpv' k hk; omega)
  · rcases hat g hg with h1 | h1
    · exact s.apart g h1 e
    · have := hfv g e; omega

end

/-- The last pair is taken off a row. -/
theorem owns_pop {W : World} {base : Nat} {fv : Value} {fl : List (Nat × Nat)} {p : Nat × Nat} (h : W.ownsRow base 43 2 fv (fl ++ [p]).length (pairCells (fl ++ [p]))) : ∃ g cap, fv = .slice (some ⟨g, 0, none⟩) (fl.length + 1) cap ∧ base ≤ g ∧ fl.length + 1 ≤ cap ∧
    W.cell? ⟨g, fl.length * 2, none⟩ = some (.int .i64 ((p.1 : Int) + 1)) ∧ W.cell? ⟨g, fl.length * 2 + 1, none⟩ = some (.int .i64 ((p.2 : Int) + 1)) ∧
    W.ownsRow base 43 2 (.slice (some ⟨g, 0, none⟩) fl.length cap) fl.length (pairCells fl) := by
  obtain ⟨hl, h0 | ⟨g, cap, cur, rfl, h1, h2, h3, h4, h5, h6⟩⟩ := h
  · simp at h0
  · have e1 : (fl ++ [p]).length = fl.length + 1 := by simp
    rw [e1] at h3 h6
    have e2 : pairCells (fl ++ [p]) = pairCells fl ++ [.int .i64 ((p.1 : Int) + 1), .int .i64 ((p.2 : Int) + 1)] := by rw [pairCells_append]; rfl
    rw [e2] at h6
    have hlen := pairCells_length fl
    have hget : ∀ j, j < (fl.length + 1) * 2 → cur[j]? = (pairCells fl ++ [.int .i64 ((p.1 : Int) + 1), .int .i64 ((p.2 : Int) + 1)])[j]? := fun j hj => by
      rw [← h6, List.getElem?_take, if_pos hj, Array.getElem?_toList]
    refine ⟨g, cap, by rw [e1], h1, h3, ?_, ?_, pairCells_length fl, Or.inr ⟨g, cap, cur, rfl, h1, h2, by omega, h4, h5, ?_⟩⟩
    · simp only [World.cell?, h2]
      have := hget (fl.length * 2) (by omega)
      rw [List.getElem?_append_right (by omega), hlen, Nat.sub_self] at this
      simpa using this
    · simp only [World.cell?, h2]
      have := hget (fl.length * 2 + 1) (by omega)
      rw [List.getElem?_append_right (by omega), hlen, Nat.add_sub_cancel_left] at this
      simpa using this
    · have : cur.toList.take (fl.length * 2) = (cur.toList.take ((fl.length + 1) * 2)).take (fl.length * 2) := by
        rw [List.take_take]
        congr 1
        omega
      rw [this, h6, List.take_append_of_le_length (by omega), ← hlen, List.take_length]

end Go.Proofs.Qxb6615834aFmt
