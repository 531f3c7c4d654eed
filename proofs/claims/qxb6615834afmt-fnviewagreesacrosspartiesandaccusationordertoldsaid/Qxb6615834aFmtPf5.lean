/-
  pruneGraph: what lies in memory within a round of the loop over the work list.
-/
import Derived.Test.Qxb6615834aFmtPst
namespace Go.Proofs.Qxb6615834aFmt
open Go.RowKit Go.Deep

/-- The closure lower. -/
def lowV (H K : Nat) : Value := .func (.func 36) #[] #[.pointer (some ⟨K + 2, 0, none⟩), .pointer (some ⟨H, 0, none⟩), .pointer (some ⟨K, 0, none⟩), .pointer (some ⟨K + 3, 0, none⟩)]

/-- The round's own boxes. -/
structure X5 (H K B S x y a b : Nat) (ds : List Deferred) (V : World) : Prop where
  b17 : V.rowIs B 70 1 (fun _ => lowV H K)
  e18 : V.rowIs S 43 2 (fun i => if i = 0 then .int .i64 ((a : Int) + 1) else .int .i64 ((b : Int) + 1))
  e19 : V.rowIs x 3 1 (fun _ => .int .i64 ((a : Int) + 1))
  e20 : V.rowIs y 3 1 (fun _ => .int .i64 ((b : Int) + 1))
  marks : Marks V H ds
  ge : ∀ k, (k = B ∨ k = S ∨ k = x ∨ k = y) → K + 4 ≤ k

def Ap5 (B S x y : Nat) (v : Value) : Prop := ∀ k, (k = B ∨ k = S ∨ k = x ∨ k = y) → v.ownBlock ≠ some k

section
variable {H K B S x y a b : Nat} {ds : List Deferred} {V V' : World}

theorem X5.lt (h : X5 H K B S x y a b ds V) : ∀ k, (k = B ∨ k = S ∨ k = x ∨ k = y) → k < V.heap.size := by
  rintro k (rfl | rfl | rfl | rfl)
  · exact h.b17.lt
  · exact h.e18.lt
  · exact h.e19.lt
  · exact h.e20.lt

theorem X5.turns {L : Nat → Prop} (h : X5 H K B S x y a b ds V) (T : Turns L V V') (hc : ∀ k, L k → ∃ o : Obj, V.heap[k]? = some o ∧ o.isCells = true) (hL : ∀ k, (k = B ∨ k = S ∨ k = x ∨ k = y) → ¬ L k) : X5 H K B S x y a b ds V' :=
  ⟨T.row h.b17 (hL _ (Or.inl rfl)), T.row h.e18 (hL _ (Or.inr (Or.inl rfl))), T.row h.e19 (hL _ (Or.inr (Or.inr (Or.inl rfl)))), T.row h.e20 (hL _ (Or.inr (Or.inr (Or.inr rfl)))),
    h.marks.others fun k o hk ho => (T.keeps hc).same k o hk ho, h.ge⟩

theorem X5.still (h : X5 H K B S x y a b ds V) (T : Turns (fun _ => False) V V') : X5 H K B S x y a b ds V' := h.turns T (fun _ e => e.elim) (fun _ _ e => e)

theorem X5.kc (h : X5 H K B S x y a b ds V) (hk : KC V V') (ho : ∀ (k : Nat) (o : Obj), V.heap[k]? = some o → o.isCells = false → V'.heap[k]? = some o) : X5 H K B S x y a b ds V' :=
  ⟨hk.row h.b17, hk.row h.e18, hk.row h.e19, hk.row h.e20, h.marks.others ho, h.ge⟩

variable {w0 : World} {n m h : Nat} {N : Nat → Nat → Bool} {Cf : Nat → Int} {pv fv : Value} {pr fl : List (Nat × Nat)}

/-- The blocks that lower turns hold cells. -/
theorem PS.low_cells (s : PS w0 H K n m h N Cf pv fv pr fl V) (k : Nat) (e : k = K + 1 ∨ k = K + 3 ∨ fv.ownBlock = some k) : ∃ o : Obj, V.heap[k]? = some o ∧ o.isCells = true := by
  rcases e with rfl | rfl | e
  · obtain ⟨c, hc, _⟩ := s.low.cC; exact ⟨_, hc, rfl⟩
  · obtain ⟨c, hc, _⟩ := s.low.f14; exact ⟨_, hc, rfl⟩
  · obtain ⟨_, h0 | ⟨g, cap, cur, rfl, _, h2, _⟩⟩ := s.low.ff
    · rw [h0.1] at e; cases e
    · have : g = k := by simpa [Value.ownBlock] using e
      subst this
      exact ⟨_, h2, rfl⟩

theorem X5.low_no (hx : X5 H K B S x y a b ds V) (hf : Ap5 B S x y fv) (k : Nat) (hk : k = B ∨ k = S ∨ k = x ∨ k = y) : ¬ (k = K + 1 ∨ k = K + 3 ∨ fv.ownBlock = some k) := by
  have := hx.ge k hk
  rintro (e | e | e)
  · omega
  · omega
  · exact hf k hk e

theorem PS.pv_cells (s : PS w0 H K n m h N Cf pv fv pr fl V) (k : Nat) (e : k = H + 3 ∨ pv.ownBlock = some k) : ∃ o : Obj, V.heap[k]? = some o ∧ o.isCells = true := by
  rcases e with rfl | e
  · obtain ⟨c, hc, _⟩ := s.gG; exact ⟨_, hc, rfl⟩
  · obtain ⟨_, h0 | ⟨g, cap, cur, rfl, _, h2, _⟩⟩ := s.own
    · rw [h0.1] at e; cases e
    · have : g = k := by simpa [Value.ownBlock] using e
      subst this
      exact ⟨_, h2, rfl⟩

theorem PS.cutT {u v : Nat} (V : World) (N : Nat → Nat → Bool) : Turns (fun j => j = H + 5 + u ∨ j = H + 5 + v) V (cutW V (fun p => H + 5 + p) N u v) := by
  unfold cutW wrote
  exact ((((Turns.refl (fun j => j = H + 5 + u ∨ j = H + 5 + v) V).setCell (a := ⟨H + 5 + u, v / 64, none⟩) (Or.inl rfl) _).drew).setCell (a := ⟨H + 5 + v, u / 64, none⟩) (Or.inr rfl) _).drew

theorem X5.cut {u v : Nat} (hx : X5 H K B S x y a b ds V) (s : PS w0 H K n m h N Cf pv fv pr fl V) (hK : H + 5 + n ≤ K) (hu : u < n) (hv : v < n) : X5 H K B S x y a b ds (cutW V (fun p => H + 5 + p) N u v) :=
  hx.turns (PS.cutT V N) (fun k e => by
    rcases e with rfl | rfl
    · obtain ⟨c, hc, _⟩ := s.nb.rows u hu; exact ⟨_, hc, rfl⟩
    · obtain ⟨c, hc, _⟩ := s.nb.rows v hv; exact ⟨_, hc, rfl⟩) (fun k hk e => by have := hx.ge k hk; omega)

end

/-- What stands between two rounds of the loop over the common neighbours. -/
structure D5 (w0 W3 : World) (H K n m h : Nat) (N : Nat → Nat → Bool) (pv : Value) (pr : List (Nat × Nat)) (B S x y a b bS : Nat) (ds : List Deferred) (st : (Nat → Int) × List (Nat × Nat)) (fv : Value) (W : World) : Prop where
  ps : PS w0 H K n m h N st.1 pv fv pr st.2 W
  x5 : X5 H K B S x y a b ds W
  ap : Ap5 B S x y fv
  fS : fv.ownBlock ≠ some bS
  size : W3.heap.size ≤ W.heap.size
  others : ∀ (k : Nat) (o : Obj), W3.heap[k]? = some o → o.isCells = false → W.heap[k]? = some o

theorem D5.own {β : Type} {w0 W3 : World} {H K n m h : Nat} {N : Nat → Nat → Bool} {pv : Value} {pr : List (Nat × Nat)} {B S x y a b bS : Nat} {ds : List Deferred} {st : β → (Nat → Int) × List (Nat × Nat)} (hH : H ≤ W3.heap.size) (hm : Marks W3 H ds) :
    OwnFrom W3.heap.size (fun s W => ∃ fv, D5 w0 W3 H K n m h N pv pr B S x y a b bS ds (st s) fv W) := by
  rintro s W W' row ⟨fv, d⟩ hg hr
  have hr' : ∀ r, row = some r → ∃ o : Obj, W.heap[r]? = some o ∧ o.isCells = false := fun r e => (hr r e).2
  have hk := KC.grown hg hr'
  have hb : Below H W W' := (Below.refl H W).grown hg (by have := d.size; omega) (fun k e => by have := (hr k e).1; omega)
  have ho : ∀ (k : Nat) (o : Obj), W3.heap[k]? = some o → o.isCells = false → W'.heap[k]? = some o := fun k o hk ho => by
    have hlt : k < W3.heap.size := (Array.getElem?_eq_some_iff.1 hk).1
    rw [hg.block k (by have := d.size; omega) (fun e => by have := (hr k e.symm).1; omega)]
    exact d.others k o hk ho
  exact ⟨fv, d.ps.kc hb hk, ⟨hk.row d.x5.b17, hk.row d.x5.e18, hk.row d.x5.e19, hk.row d.x5.e20, hm.others ho, d.x5.ge⟩, d.ap, d.fS, Nat.le_trans d.size hg.size, ho⟩

/-- What lower leaves. -/
theorem D5.lowered {w0 W3 W W' : World} {H K n m h : Nat} {N : Nat → Nat → Bool} {pv fv : Value} {pr : List (Nat × Nat)} {B S x y a b bS : Nat} {ds : List Deferred} {st : (Nat → Int) × List (Nat × Nat)} {p : Nat × Nat}
    (d : D5 w0 W3 H K n m h N pv pr B S x y a b bS ds st fv W) (hK : H + 5 + n ≤ K) (hbS : bS < W3.heap.size) (hbK : K + 4 ≤ bS) (l : Lowered W W' (K + 2) (K + 1) H K (K + 3) (K + 4) n h st.1 fv st.2 (p.1 * n + p.2) p.1 p.2) :
    ∃ fv', D5 w0 W3 H K n m h N pv pr B S x y a b bS ds (lowStep n h st p) fv' W' ∧ KeepsFrom W3.heap.size W W' ∧ W'.heap[bS]? = W.heap[bS]? ∧ W'.heap[0]? = W.heap[0]? := by
  obtain ⟨fv', s', hnew, T⟩ := d.ps.lowered hK l
  have hc := d.ps.low_cells
  have KO := T.keeps hc
  have hsz := d.size
  have hfv : ∀ j, fv.ownBlock = some j → K + 4 ≤ j := fun j e => (d.ps.low.ff.lt j e).1
  refine ⟨fv', ⟨s', d.x5.turns T hc (fun k hk => d.x5.low_no d.ap k hk), fun k hk => hnew k (d.x5.lt k hk) (d.ap k hk), hnew bS (by omega) d.fS, Nat.le_trans d.size T.size, fun j o hj ho => KO.same j o (d.others j o hj ho) ho⟩, KO.from _, T.block _ (by omega) ?_, T.block _ (by have := d.ps.size; omega) ?_⟩
  · rintro (e | e | e)
    · omega
    · omega
    · exact d.fS e
  · rintro (e | e | e)
    · omega
    · omega
    · have := hfv 0 e; omega

/-- Behind the append to the pruned pairs, and behind the store. -/
theorem PS.pushed {H K B S x y a b : Nat} {ds : List Deferred} {V w1 : World} {w0 : World} {n m h g cap Z : Nat} {N : Nat → Nat → Bool} {Cf : Nat → Int} {pv fv : Value} {pr fl : List (Nat × Nat)}
    (s : PS w0 H K n m h N Cf pv fv pr fl V) (hx : X5 H K B S x y a b ds V) (hp : Ap5 B S x y pv) (hK : H + 5 + n ≤ K) (T : Turns (fun j => pv.ownBlock = some j) V w1)
    (ho : w1.ownsRow (H + 2) 43 2 (.slice (some ⟨g, 0, none⟩) (pr.length + 1) cap) (pr.length + 1) (pairCells pr ++ [.int .i64 ((a : Int) + 1), .int .i64 ((b : Int) + 1)])) (hat : pv.ownBlock = some g ∨ g = Z) (hZ : V.heap.size ≤ Z) :
    (PS w0 H K n m h N Cf (.slice (some ⟨g, 0, none⟩) (pr.length + 1) cap) fv (pr ++ [(a, b)]) fl (w1.setCell ⟨H + 3, 1, none⟩ (.slice (some ⟨g, 0, none⟩) (pr.length + 1) cap)) ∧ X5 H K B S x y a b ds (w1.setCell ⟨H + 3, 1, none⟩ (.slice (some ⟨g, 0, none⟩) (pr.length + 1) cap)) ∧
      Ap5 B S x y (.slice (some ⟨g, 0, none⟩) (pr.length + 1) cap)) ∧ w1.rowIs (H + 4) 54 1 (fun _ => .pointer (some ⟨H + 3, 0, none⟩)) ∧ GAt w1 (H + 3) (H + 1) n pv ∧
      w1.rowIs S 43 2 (fun i => if i = 0 then .int .i64 ((a : Int) + 1) else .int .i64 ((b : Int) + 1)) := by
  have hno : ∀ k, k < K + 4 → k ≠ H + 2 → ¬ pv.ownBlock = some k := fun k hk h2 e => by have := s.pvB k e; omega
  have hat2 : ∀ g', (Value.slice (some ⟨g, 0, none⟩) (pr.length + 1) cap).ownBlock = some g' → pv.ownBlock = some g' ∨ V.heap.size ≤ g' := fun g' e => by
    have : g = g' := by simpa [Value.ownBlock] using e
    subst this
    rcases hat with h1 | h1
    · exact Or.inl h1
    · exact Or.inr (by omega)
  have T2 : Turns (fun j => j = H + 3 ∨ pv.ownBlock = some j) V (w1.setCell ⟨H + 3, 1, none⟩ (.slice (some ⟨g, 0, none⟩) (pr.length + 1) cap)) := (T.mono (M := fun j => j = H + 3 ∨ pv.ownBlock = some j) fun _ _ e => Or.inr e).setCell (a := ⟨H + 3, 1, none⟩) (Or.inl rfl) _
  refine ⟨⟨s.push (pr' := pr ++ [(a, b)]) hK T (by rw [List.length_append, pairCells_append]; exact ho) hat2, hx.turns T2 s.pv_cells (fun k hk e => ?_), fun k hk e => ?_⟩, T.row s.g7 (hno _ (by omega) (by omega)), T.row s.gG (hno _ (by omega) (by omega)), T.row hx.e18 (hp S (Or.inr (Or.inl rfl)))⟩
  · have := hx.ge k hk
    rcases e with e | e
    · omega
    · exact hp k hk e
  · have := hx.lt k hk
    rcases hat2 k e with h1 | h1
    · exact hp k hk h1
    · omega

/-- A pair that lower is called at: its places, and the count there. -/
theorem low_bounds {G N : Nat → Nat → Bool} {n h a b c : Nat} {Cf : Nat → Int} {fl pr : List (Nat × Nat)} (hI : PInv G N n h Cf (fl ++ [(a, b)]) pr) (hn : n ≤ 1024) (hab : a < b) (hb : b < n) (hc : both (cutN N a b a) (cutN N a b b) c = true) (u : Nat) (hu : u = a ∨ u = b) (ps : List (Nat × Nat)) (hps : ps.length ≤ 4096) :
    (ordP u c).1 < (ordP u c).2 ∧ (ordP u c).2 < n ∧ ((u = (ordP u c).1 ∧ c = (ordP u c).2) ∨ (u = (ordP u c).2 ∧ c = (ordP u c).1)) ∧
      -100000 ≤ (lowRun n h (Cf, fl) ps).1 ((ordP u c).1 * n + (ordP u c).2) ∧ (lowRun n h (Cf, fl) ps).1 ((ordP u c).1 * n + (ordP u c).2) ≤ 100000 := by
  have hne : a ≠ b := by omega
  rw [both, cutN_at N hne, cutN_at N hne, Bool.and_eq_true] at hc
  obtain ⟨h1, h2⟩ := hc
  have hca : c ≠ a := fun e => by rw [if_pos (by omega)] at h2; cases h2
  have hcb : c ≠ b := fun e => by rw [if_pos (by omega)] at h1; cases h1
  rw [if_neg (by omega)] at h1 h2
  have hcn := hI.gr.lt a c h1
  have huc : N u c = true := by
    rcases hu with rfl | rfl
    · exact h1
    · exact h2
  have hun : u < n := by omega
  have hne2 : u ≠ c := by omega
  have hN : ∀ x y, x < y → y < n → N x y = true → -100000 ≤ (lowRun n h (Cf, fl) ps).1 (x * n + y) ∧ (lowRun n h (Cf, fl) ps).1 (x * n + y) ≤ 100000 := fun x y hxy hy hxN => by
    have h3 := hI.cf x y hxy hy hxN
    have h4 := comm_le N n x y
    have h5 := lowRun_cf n h ps (Cf, fl) (x * n + y)
    simp only [h3] at h5
    omega
  by_cases e : u < c
  · rw [ordP_lt e]
    exact ⟨e, hcn, Or.inl ⟨rfl, rfl⟩, hN u c e hcn huc⟩
  · have e' : c < u := by omega
    rw [ordP_gt e']
    exact ⟨e', hun, Or.inr ⟨rfl, rfl⟩, hN c u e' hun (by rw [hI.gr.sym c u hcn hun]; exact huc)⟩

end Go.Proofs.Qxb6615834aFmt
