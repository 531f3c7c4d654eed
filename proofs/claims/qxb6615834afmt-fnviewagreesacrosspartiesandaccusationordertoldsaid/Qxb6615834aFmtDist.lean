/-
  prunedGraph.distances: the walk.
-/
import Derived.Test.Qxb6615834aFmtBfs
import Derived.Test.Qxb6615834aFmtQueue
import Derived.RangeFuncBox
namespace Go.Proofs.Qxb6615834aFmt
open Go.RowKit Go.Deep Go.Shelf
attribute [local go_sem] Oper.semAt_some

/-- The outermost loops of a code, in the text's order. -/
def loopsOf : Code → List Code
  | .loop c => [c]
  | .seq a b => loopsOf a ++ loopsOf b
  | .block _ c => loopsOf c
  | .scope c => loopsOf c
  | .cond _ a b => loopsOf a ++ loopsOf b
  | _ => []

noncomputable def distBody : Code := (((Tryf.f42.body.map loopsOf).getD [])[1]?).getD .skip

/-- Marks that stand among the deferred calls: each names a block of its own that holds no call. -/
def Marks (w : World) (lo : Nat) (ds : List Deferred) : Prop := ∃ Ds : List Nat, ds = Ds.map (fun D => { target := .collected D, args := #[] }) ∧ Ds.Nodup ∧ ∀ D ∈ Ds, lo ≤ D ∧ w.heap[D]? = some (.deferred (some []))

theorem Marks.others {w w' : World} {lo : Nat} {ds : List Deferred} (h : Marks w lo ds) (hk : ∀ (k : Nat) (o : Obj), w.heap[k]? = some o → o.isCells = false → w'.heap[k]? = some o) : Marks w' lo ds := by
  obtain ⟨Ds, h1, h2, h3⟩ := h
  exact ⟨Ds, h1, h2, fun D hD => ⟨(h3 D hD).1, hk D _ (h3 D hD).2 rfl⟩⟩
theorem Marks.turns {w w' : World} {lo : Nat} {ds : List Deferred} (h : Marks w lo ds) (hk : Turns (fun _ => False) w w') : Marks w' lo ds :=
  h.others fun k _ hko _ => (hk.block k (Array.getElem?_eq_some_iff.1 hko).1 (fun e => e)).trans hko
theorem Marks.alloc {w : World} {lo : Nat} {ds : List Deferred} (h : Marks w lo ds) (o : Obj) : Marks (w.alloc o) lo ds := h.turns ((Turns.refl _ w).alloc o)
theorem Marks.cons {W w : World} {lo D : Nat} {ds : List Deferred} (h : Marks W lo ds) (hk : ∀ (k : Nat) (o : Obj), W.heap[k]? = some o → o.isCells = false → w.heap[k]? = some o) (hlo : lo ≤ D) (hW : W.heap.size ≤ D) (hD : w.heap[D]? = some (.deferred (some []))) :
    Marks w lo ({ target := .collected D, args := #[] } :: ds) := by
  obtain ⟨Ds, h1, h2, h3⟩ := h
  refine ⟨D :: Ds, by rw [h1]; rfl, List.nodup_cons.2 ⟨fun hm => ?_, h2⟩, fun E hE => ?_⟩
  · have := (Array.getElem?_eq_some_iff.1 (h3 D hm).2).1
    omega
  · rcases List.mem_cons.1 hE with rfl | hE
    · exact ⟨hlo, hD⟩
    · exact ⟨(h3 E hE).1, hk E _ (h3 E hE).2 rfl⟩

/-- Not in a round: a quiet head, a tail of the last operations. -/
theorem wpIn_wide_tail {n : Nat} {P : Program} {id : Nat} {Q : Exit → Act → World → Prop} {a : Act} {w : World} {l : List Oper} (m : Nat) (hm : P.follows .mixedOrders = true) (hB : Region.lexTailB .any l.toArray m = true)
    (h : wpQuietIn Fence.wide n P l.toArray (fun w' => ∃ n, w' = w.drewN n) (fun a' => ∀ w', (∃ n, w' = w.drewN n) → wpListIn Fence.wide n P l.toArray Q (l.drop m) a' w') (l.take m) a) :
    (Code.region id l.toArray true).wpIn Fence.wide n P Q a w :=
  wpIn_region_any hm (tail_any (C := fun w' => ∃ n, w' = w.drewN n) m rfl hB ⟨1, rfl⟩ h)

theorem Turns.keeps {L : Nat → Prop} {w w' : World} (h : Turns L w w') (hc : ∀ k, L k → ∃ o : Obj, w.heap[k]? = some o ∧ o.isCells = true) : KeepsOthers w w' :=
  ⟨h.size, fun k o hk ho => (h.block k (Array.getElem?_eq_some_iff.1 hk).1 (fun e => by
    obtain ⟨o', ho', hc'⟩ := hc k e
    rw [hk] at ho'
    cases ho'
    rw [ho] at hc'
    cases hc')).trans hk⟩

theorem rowIs_box (W : World) (v : Value) (t : TypeId) : (W.alloc (.cells #[v] t)).rowIs W.heap.size t 1 (fun _ => v) :=
  ⟨#[v], blk_alloc_new _ _, rfl, fun i hi => by
    have : i = 0 := by omega
    subst this
    rfl⟩

theorem rowIs_own {W W' : World} {b t n : Nat} {f : Nat → Value} {row : Option Nat} (h : W.rowIs b t n f) (hg : W.grownBy W' row) (hr : ∀ r, row = some r → ∃ o : Obj, W.heap[r]? = some o ∧ o.isCells = false) : W'.rowIs b t n f := by
  refine h.of_block (hg.block b h.lt fun e => ?_)
  obtain ⟨o, ho, hc⟩ := hr b e.symm
  obtain ⟨c, hb, _⟩ := h
  rw [hb] at ho
  cases ho
  cases hc

theorem QAt.own {W W' : World} {b off cap : Nat} {xs : List Nat} {row : Option Nat} (h : QAt W b off cap xs) (hg : W.grownBy W' row) (hr : ∀ r, row = some r → ∃ o : Obj, W.heap[r]? = some o ∧ o.isCells = false) : QAt W' b off cap xs := by
  refine h.of_block (hg.block b h.lt fun e => ?_)
  obtain ⟨o, ho, hc⟩ := hr b e.symm
  obtain ⟨c, hb, _⟩ := h
  rw [hb] at ho
  cases ho
  cases hc

/-- What stands between two rounds of the loop over q's neighbours. -/
structure DIn (w0 W3 : World) (H n q b8 B7 : Nat) (st : (Nat → Int) × List Nat) (W : World) : Prop where
  below : Below H w0 W
  size : W3.heap.size ≤ W.heap.size
  others : ∀ (k : Nat) (o : Obj), W3.heap[k]? = some o → o.isCells = false → W.heap[k]? = some o
  dist : W.rowIs H 3 n (fun i => .int .i64 (st.1 i))
  box : W.rowIs (H + 1) 42 1 (fun _ => .slice (some ⟨H, 0, none⟩) n n)
  qbox : W.rowIs b8 3 1 (fun _ => .int .i64 ((q : Int) + 1))
  queue : ∃ b off cap, W.rowIs B7 42 1 (fun _ => .slice (some ⟨b, off, none⟩) st.2.length cap) ∧ QAt W b off cap st.2 ∧ H + 2 ≤ b ∧ b ≠ B7 ∧ b ≠ b8

theorem DIn.own {β : Type} {w0 W3 : World} {H n q b8 B7 : Nat} {st : β → (Nat → Int) × List Nat} (hH : H ≤ W3.heap.size) : OwnFrom W3.heap.size (fun s W => DIn w0 W3 H n q b8 B7 (st s) W) := by
  intro s W W' row h hg hr
  have hr' : ∀ r, row = some r → ∃ o : Obj, W.heap[r]? = some o ∧ o.isCells = false := fun r e => (hr r e).2
  obtain ⟨b, off, cap, q1, q2, q3⟩ := h.queue
  refine ⟨h.below.grown hg (by have := h.size; omega) (fun k e => by have := (hr k e).1; omega), Nat.le_trans h.size hg.size, fun k o hk ho => ?_, rowIs_own h.dist hg hr', rowIs_own h.box hg hr', rowIs_own h.qbox hg hr', b, off, cap, rowIs_own q1 hg hr', q2.own hg hr', q3⟩
  have hlt : k < W3.heap.size := (Array.getElem?_eq_some_iff.1 hk).1
  rw [hg.block k (by have := h.size; omega) (fun e => by have := (hr k e.symm).1; omega)]
  exact h.others k o hk ho

/-- What stands at the head of the search's loop. -/
structure DRel (w0 : World) (H n p : Nat) (N : Nat → Nat → Bool) (k : Nat) (d : Nat → Int) (ys : List Nat) (B7 : Nat) (ds : List Deferred) (W : World) : Prop where
  bs : BSearch N n p d ys k
  kn : k ≤ n
  below : Below H w0 W
  dist : W.rowIs H 3 n (fun i => .int .i64 (d i))
  box : W.rowIs (H + 1) 42 1 (fun _ => .slice (some ⟨H, 0, none⟩) n n)
  queue : ∃ A cap, W.rowIs B7 42 1 (fun _ => .slice A ys.length cap) ∧ (ys ≠ [] → ∃ b off, A = some ⟨b, off, none⟩ ∧ QAt W b off cap ys ∧ H + 2 ≤ b ∧ b ≠ B7)
  b7 : H + 2 ≤ B7
  marks : Marks W (H + 2) ds

set_option maxRecDepth 1000000 in
def DI (w0 : World) (H bG n p : Nat) (N : Nat → Nat → Bool) (k : Nat) (a : Act) (W : World) : Prop :=
  ∃ u2 u3 u4 u6 u8 u9 u10 u11 u12 u13 u14 u15 u16 u17 u18 u19 u20 u21 u22 u23 u24 u25 u26 u27 u28 u29 u30 u31 u32 u33 u34 u35 u36 u37 u38 u39 u40 u41 u42 u43 u44 u45 u46 u47 u48 u49 u50 u51 u52 u53 u54 u55 u56 u57 u58 u59 u60 u61 u62 u63 u64 u65 u66 u67 u68 u69 u70 : Value, ∃ (d : Nat → Int) (ys : List Nat) (B7 : Nat) (ds : List Deferred), DRel w0 H n p N k d ys B7 ds W ∧ a = ⟨#[.pointer (some ⟨bG, 0, none⟩), .int .i64 ((p : Int) + 1), u2, u3, u4, .pointer (some ⟨H + 1, 0, none⟩), u6, .pointer (some ⟨B7, 0, none⟩), u8, u9, u10, u11, u12, u13, u14, u15, u16, u17, u18, u19, u20, u21, u22, u23, u24, u25, u26, u27, u28, u29, u30, u31, u32, u33, u34, u35, u36, u37, u38, u39, u40, u41, u42, u43, u44, u45, u46, u47, u48, u49, u50, u51, u52, u53, u54, u55, u56, u57, u58, u59, u60, u61, u62, u63, u64, u65, u66, u67, u68, u69, u70], ds⟩

set_option maxHeartbeats 4000000 in
set_option maxRecDepth 1000000 in
theorem dist_round (w0 : World) (H bG bN n m p : Nat) (B : Nat → Nat) (N : Nat → Nat → Bool) (pv : Value) (hH : H = w0.heap.size) (hg : GAt w0 bG bN n pv) (hn : NbAt w0 bN n m B N) (hm : m ≤ 16) (hnm : n ≤ 64 * m) (ht : TabAt w0) (hN : ∀ x y, N x y = true → y < n)
    (k : Nat) (d : Nat → Int) (q : Nat) (ys : List Nat) (B7 : Nat) (ds : List Deferred) (W : World) (h : DRel w0 H n p N (k + 1) d (q :: ys) B7 ds W) (u2 u3 u4 u6 u8 u9 u10 u11 u12 u13 u14 u15 u16 u17 u18 u19 u20 u21 u22 u23 u24 u25 u26 u27 u28 u29 u30 u31 u32 u33 u34 u35 u36 u37 u38 u39 u40 u41 u42 u43 u44 u45 u46 u47 u48 u49 u50 u51 u52 u53 u54 u55 u56 u57 u58 u59 u60 u61 u62 u63 u64 u65 u66 u67 u68 u69 u70 : Value) (Q : Exit → Act → World → Prop) :
    Code.wpIn Fence.wide 10 Tryf.prog distBody (Exit.then (fun a' w' => ∃ k', k' < k + 1 ∧ DI w0 H bG n p N k' a' w') Q) ⟨#[.pointer (some ⟨bG, 0, none⟩), .int .i64 ((p : Int) + 1), u2, u3, u4, .pointer (some ⟨H + 1, 0, none⟩), u6, .pointer (some ⟨B7, 0, none⟩), u8, u9, u10, u11, u12, u13, u14, u15, u16, u17, u18, u19, u20, u21, u22, u23, u24, u25, u26, u27, u28, u29, u30, u31, u32, u33, u34, u35, u36, u37, u38, u39, u40, u41, u42, u43, u44, u45, u46, u47, u48, u49, u50, u51, u52, u53, u54, u55, u56, u57, u58, u59, u60, u61, u62, u63, u64, u65, u66, u67, u68, u69, u70], ds⟩ W := by
  obtain ⟨A, cap, hb7, hqq⟩ := h.queue
  obtain ⟨b, off, rfl, hQ, hb2, hbne⟩ := hqq (by simp)
  have hGlt : bG < H := by rw [hH]; exact World.rowIs.lt hg
  have hNlt : bN < H := by rw [hH]; exact hn.top.lt
  have hBlt : ∀ x, x < n → B x < H := fun x hx => by rw [hH]; exact World.rowIs.lt (hn.rows x hx)
  have h0lt : 0 < H := by rw [hH]; have := block_lt_of_cell (ht 0 (by omega)); simpa using this
  clear hH
  obtain ⟨hqn, hdq⟩ := h.bs.queue q (by simp)
  have c7 := hb7.cell (i := 0) (by omega)
  have cq := hQ.head
  have hmx : Tryf.prog.follows .mixedOrders = true := by kernel_rfl
  generalize hK : (fun a' w' => ∃ k', k' < k + 1 ∧ DI w0 H bG n p N k' a' w') = K
  conv => arg 4; whnf
  have hlz : (0 : Int) < (ys.length : Int) + 1 := by omega
  gi_wp2_with fail
  have hHW : H ≤ W.heap.size := Nat.le_trans (by have := h.dist.lt; omega) (Nat.le_refl _)
  obtain ⟨b8, hb8⟩ : ∃ b8, W.heap.size = b8 := ⟨_, rfl⟩
  have r8 : (W.alloc (.cells #[.int .i64 ((q : Int) + 1)] 3)).rowIs b8 3 1 (fun _ => .int .i64 ((q : Int) + 1)) := by
    rw [← hb8]
    exact rowIs_box W _ 3
  have B1 : Below H w0 (W.alloc (.cells #[.int .i64 ((q : Int) + 1)] 3)) := h.below.alloc hHW _
  have T1 : Turns (fun _ => False) W (W.alloc (.cells #[.int .i64 ((q : Int) + 1)] 3)) := (Turns.refl _ W).alloc _
  have hs1 : (W.alloc (.cells #[.int .i64 ((q : Int) + 1)] 3)).heap.size = b8 + 1 := by simp [hb8]
  rw [hb8]
  generalize W.alloc (.cells #[.int .i64 ((q : Int) + 1)] 3) = W1 at r8 B1 T1 hs1 ⊢
  have g1 : GAt W1 bG bN n pv := World.rowIs.of_block hg (B1.block _ hGlt)
  have n1 : NbAt W1 bN n m B N := hn.of_blocks (B1.block _ hNlt) (fun x hx => B1.block _ (hBlt x hx))
  have e1 := g1.nb
  have e2 := n1.top.cell hqn
  have e3 := r8.cell (i := 0) (by omega)
  refine wpIn_wide_tail 8 hmx (by kernel_rfl) ?_
  simp only [List.take_succ_cons, List.take_zero, List.drop_succ_cons, List.drop_zero]
  repeat (gi_big_quiet_step (fail))
  refine wpQuietIn_nil ?_
  rintro W2 ⟨nq, hW2⟩
  have T2 : Turns (fun _ => False) W W2 := by rw [hW2]; exact T1.drewN nq
  have B2 : Below H w0 W2 := by rw [hW2]; exact below_drewN B1 nq
  have s2 : W2.heap.size = b8 + 1 := by rw [hW2]; exact hs1
  have r8' : W2.rowIs b8 3 1 (fun _ => .int .i64 ((q : Int) + 1)) := by rw [hW2]; exact r8
  clear hW2
  gi_wp2_with fail
  refine ⟨trivial, (callsIn_wide.2 (parties_any (B q) m W2)).mono ?_⟩
  rintro e w' ⟨rfl, rfl⟩
  have B3 : Below H w0 (W2.alloc (.cells #[.slice (some ⟨B q, 0, none⟩) m m] 57)) := B2.alloc (by omega) _
  have T3 : Turns (fun _ => False) W (W2.alloc (.cells #[.slice (some ⟨B q, 0, none⟩) m m] 57)) := T2.alloc _
  have s3 : (W2.alloc (.cells #[.slice (some ⟨B q, 0, none⟩) m m] 57)).heap.size = b8 + 2 := by simp [s2]
  have r8'' : (W2.alloc (.cells #[.slice (some ⟨B q, 0, none⟩) m m] 57)).rowIs b8 3 1 (fun _ => .int .i64 ((q : Int) + 1)) := r8'.alloc _
  have c9 : (W2.alloc (.cells #[.slice (some ⟨B q, 0, none⟩) m m] 57)).cell? ⟨b8 + 1, 0, none⟩ = some (.slice (some ⟨B q, 0, none⟩) m m) := by
    rw [← s2]
    exact (rowIs_box W2 _ 57).cell (by omega)
  rw [s2]
  generalize W2.alloc (.cells #[.slice (some ⟨B q, 0, none⟩) m m] 57) = W3 at B3 T3 s3 r8'' c9 ⊢
  gi_wp2_with fail
  have hW3 : H ≤ W3.heap.size := by omega
  have z5 := T3.row h.box (fun e => e)
  have zD := T3.row h.dist (fun e => e)
  have z7 := T3.row hb7 (fun e => e)
  have zQ : QAt W3 b off cap (q :: ys) := hQ.of_block (T3.block b hQ.lt (fun e => e))
  have hbb8 : b ≠ b8 := by have := hQ.lt; omega
  have hq1 : SetAt W3 (B q) m (N q) := World.rowIs.of_block (hn.rows q hqn) (B3.block _ (hBlt q hqn))
  have ht3 : TabAt W3 := fun j hj => (B3.cell (p := ⟨0, j, none⟩) h0lt).trans (ht j hj)
  have hstart : DIn w0 W3 H n q b8 B7 (d, q :: ys) W3 := ⟨B3, Nat.le_refl _, fun _ _ hk _ => hk, zD, z5, r8'', b, off, cap, z7, zQ, hb2, hbne, hbb8⟩
  refine wpIn_rangeFunc_ownG rfl (by omega) (gf := 46) (lb := #[.pointer (some ⟨b8 + 1, 0, none⟩)]) rfl trivial (enters_of Tryf.func46 (by kernel_rfl) rfl)
    (parties_stops (10 - 1) (by omega) (b8 + 1) (B q) m (N q) hm W3 (by omega) c9 hq1 ht3) KpB.trans (fun W l o o' hl _ _ _ => ⟨World.putObj_heap_other (by have := hBlt q hqn; omega), World.putObj_heap_other (by omega)⟩) (Below.refl _ _) (fun _ => rfl)
    (fun pre W => DIn w0 W3 H n q b8 B7 (brun q (d, q :: ys) (pre.map Subtype.val)) W) (fun _ _ _ => False) (DIn.own hW3) (fun _ _ _ _ _ hs _ _ => hs) hstart
    (fun x => ⟨#[.pointer (some ⟨bG, 0, none⟩), .int .i64 ((p : Int) + 1), u2, u3, u4, .pointer (some ⟨H + 1, 0, none⟩), u6, .pointer (some ⟨B7, 0, none⟩), .pointer (some ⟨b8, 0, none⟩), .int .i64 ((x.1 : Int) + 1), u10, u11, u12, u13, u14, u15, u16, u17, u18, u19, u20, u21, u22, u23, u24, u25, u26, u27, u28, u29, u30, .slice (some ⟨b, off, none⟩) (ys.length + 1) cap, .int .i64 ((ys.length : Int) + 1), .bool true, u34, u35, .slice (some ⟨b, off, none⟩) (ys.length + 1) cap, .pointer (some ⟨b, off, none⟩), .int .i64 ((q : Int) + 1), .pointer (some ⟨bG, 0, none⟩), .pointer (some ⟨bG, 0, none⟩), .pointer (some ⟨bG, 0, none⟩), .slice (some ⟨bN, 0, none⟩) n n, .int .i64 ((q : Int) + 1), .int .i64 (q : Int), .pointer (some ⟨bN, q, none⟩), .slice (some ⟨B q, 0, none⟩) m m, .func (.func 46) #[] #[.pointer (some ⟨b8 + 1, 0, none⟩)], .int .i64 ((x.1 : Int) + 1), u49, u50, u51, u52, u53, u54, u55, u56, u57, u58, u59, u60, u61, u62, u63, u64, u65, u66, u67, u68, u69, u70], []⟩) ?assign ?body ?done ?stop
  case assign =>
    intro l x W K hK
    gi_wp2
    exact hK
  case body =>
    rintro l pre ⟨r, hrm, hSr⟩ V hI hlt
    have hrn : r < n := hN q r hSr
    obtain ⟨i1, i2, _, _, _⟩ := brun_all hqn (pre.map Subtype.val) h.bs.toBInv hdq (fun x hx => by
      obtain ⟨y, _, rfl⟩ := List.mem_map.1 hx
      exact hN q y.1 y.2.2)
    have e0 : brun q (d, q :: ys) ((pre ++ [(⟨r, hrm, hSr⟩ : El (N q) m)]).map Subtype.val) = bstep q (brun q (d, q :: ys) (pre.map Subtype.val)) r := by
      rw [List.map_append]
      exact brun_snoc _ _ _ _
    have hkq := i2 q hdq
    try dsimp only at hI
    obtain ⟨st, hst⟩ : ∃ st, brun q (d, q :: ys) (pre.map Subtype.val) = st := ⟨_, rfl⟩
    rw [hst] at hI i1 i2 hkq e0
    generalize hI' : (fun (pre : List (El (N q) m)) (W : World) => DIn w0 W3 H n q b8 B7 (brun q (d, q :: ys) (pre.map Subtype.val)) W) = I
    dsimp only
    clear hst hstart zD z5 z7 zQ c9 hq1 ht3 r8''
    obtain ⟨b', off', cap', y7, yQ, hb2', hbne', hb8'⟩ := hI.queue
    have c5 := hI.box.cell (i := 0) (by omega)
    have cr := hI.dist.cell hrn
    have cQ := hI.dist.cell hqn
    have c8 := hI.qbox.cell (i := 0) (by omega)
    have hb7l := h.b7
    have hlowr := i1.low r hrn
    have hhigh := i1.high q hqn
    have hrz : (r : Int) < (n : Int) := by omega
    have hqz : (q : Int) < (n : Int) := by omega
    have hst0 : 0 ≤ st.1 q := by rw [hkq]; exact hdq
    clear hkq i2
    have hn64 : (n : Int) ≤ 1024 := by omega
    by_cases hneg : st.1 r < 0
    · gi_wp2_with fail
      refine wpIn_round_tail 10 hmx (by kernel_rfl) (by kernel_rfl) ?_
      simp only [List.take_succ_cons, List.take_zero, List.drop_succ_cons, List.drop_zero]
      repeat (gi_big_quiet_step (fail))
      refine wpQuietIn_nil ?_
      rintro V4 ⟨nq4, hV4⟩
      have T4 : Turns (fun j => j = H ∨ j = B7 ∨ j = b') V V4 := by rw [hV4]; exact (Turns.refl _ V).drewN nq4
      have xD : V4.rowIs H 3 n (fun i => .int .i64 (st.1 i)) := by rw [hV4]; exact hI.dist
      have x7 : V4.rowIs B7 42 1 (fun _ => .slice (some ⟨b', off', none⟩) st.2.length cap') := by rw [hV4]; exact y7
      have xQ : QAt V4 b' off' cap' st.2 := by rw [hV4]; exact yQ
      clear hV4
      have xr := xD.cell hrn
      have xf := xD.frozen r
      generalize hV5 : V4.setCell ⟨H, r, none⟩ (.int .i64 (st.1 q + 1)) = V5
      have T5 : Turns (fun j => j = H ∨ j = B7 ∨ j = b') V V5 := by rw [← hV5]; exact T4.setCell (a := ⟨H, r, none⟩) (Or.inl rfl) _
      have U5 : Turns (fun j => j = H) V4 V5 := by rw [← hV5]; exact (Turns.refl (fun j => j = H) V4).setCell (a := ⟨H, r, none⟩) rfl _
      have wD : V5.rowIs H 3 n (fun i => .int .i64 (putI st.1 r (st.1 q + 1) i)) := by
        rw [← hV5]
        exact (xD.set r _).congr fun i _ => by
          by_cases e : i = r
          · simp [e, putI]
          · simp [e, putI]
      have w7 := U5.row x7 (fun e => by have : B7 = H := e; omega)
      have wQ : QAt V5 b' off' cap' st.2 := xQ.of_block (U5.block b' xQ.lt (fun e => by have : b' = H := e; omega))
      have w7c := w7.cell (i := 0) (by omega)
      have hcnt := i1.count
      have hkn := h.kn
      gi_wp2_with (gi_at_builtin; refine wpListIn_append_q rfl _ _ rfl b' off' cap' r st.2 rfl rfl wQ (by omega) ?_; intro b2 off2 cap2 V6 hQ6 hg6 hl6; have U6 : Turns (fun j => j = b') V5 V6 := (Turns.refl _ V5).grown hg6 (fun k e => by cases e; rfl); have v7 := U6.row w7 (fun e => hbne' e.symm); have v7c := v7.cell (i := 0) (by omega); have v7f := v7.frozen 0)
      have T6 : Turns (fun j => j = H ∨ j = B7 ∨ j = b') V V6 := T5.trans (U6.mono fun _ _ e => Or.inr (Or.inr e))
      have T7 := T6.setCell (a := ⟨B7, 0, none⟩) (Or.inr (Or.inl rfl)) (.slice (some ⟨b2, off2, none⟩) (st.2.length + 1) cap2)
      have hlt7 := hb7.lt
      have KO := T7.keeps (fun j hj => by
        rcases hj with rfl | rfl | rfl
        · obtain ⟨c, hc, _⟩ := hI.dist; exact ⟨_, hc, rfl⟩
        · obtain ⟨c, hc, _⟩ := y7; exact ⟨_, hc, rfl⟩
        · obtain ⟨c, hc, _⟩ := yQ; exact ⟨_, hc, rfl⟩)
      have hBq := hBlt q hqn
      have hVsz := hI.size
      have hV5sz := T5.size
      subst hI'
      refine ⟨KO.from _, ⟨T7.block _ (by omega) (by omega), T7.block _ (by omega) (by omega)⟩, ?_⟩
      show DIn w0 W3 H n q b8 B7 (brun q (d, q :: ys) ((pre ++ [(⟨r, hrm, hSr⟩ : El (N q) m)]).map Subtype.val)) _
      rw [e0, bstep, if_pos hneg]
      have hb2' : H + 2 ≤ b2 ∧ b2 ≠ B7 ∧ b2 ≠ b8 := by omega
      refine ⟨hI.below.trans (T7.below (fun j _ hj => by omega) (by omega)), Nat.le_trans hI.size T7.size, fun j o hj ho => KO.same j o (hI.others j o hj ho) ho, ?_, T7.row hI.box (by omega), T7.row hI.qbox (by omega), b2, off2, cap2, ?_, ?_, hb2'⟩
      · exact (U6.row wD (by omega)).setOther (by simp; omega) _
      · refine (v7.set 0 _).congr fun i hi => ?_
        have : i = 0 := by omega
        simp [this]
      · exact hQ6.of_block (blk_setCell_other _ _ _ _ (by simp; omega))
    · gi_wp2_with fail
      subst hI'
      refine ⟨KeepsFrom.refl _ _, KpB.refl _ _, ?_⟩
      show DIn w0 W3 H n q b8 B7 (brun q (d, q :: ys) ((pre ++ [(⟨r, hrm, hSr⟩ : El (N q) m)]).map Subtype.val)) _
      rw [e0, bstep, if_neg (by omega)]
      exact hI
  case done =>
    rintro D xs V hD hxs hI hDd
    dsimp only
    try dsimp only at hI
    rw [hxs] at hI
    have hmem : ∀ y, y ∈ upE (N q) (64 * m) ↔ N q y = true := fun y => by
      unfold upE
      rw [List.mem_filter, List.mem_range]
      exact ⟨fun h => h.2, fun h => ⟨by have := hN q y h; omega, h⟩⟩
    obtain ⟨i1, hcons⟩ := h.bs.round hN (upE (N q) (64 * m)) hmem
    clear hmem
    generalize brun q (d, q :: ys) (upE (N q) (64 * m)) = st at hI i1 hcons
    obtain ⟨d', zs⟩ := st
    try dsimp only at hI i1 hcons
    obtain ⟨zs', rfl⟩ : ∃ zs', zs = q :: zs' := ⟨_, hcons⟩
    clear hcons
    simp only [List.tail_cons] at i1
    obtain ⟨b', off', cap', y7, yQ, hb2', hbne', hb8'⟩ := hI.queue
    have y7c := y7.cell (i := 0) (by omega)
    obtain ⟨c9', hV9⟩ : ∃ c9', V.heap.size = c9' := ⟨_, rfl⟩
    have hVs := hI.size
    have hml := h.marks
    have hkn := h.kn
    have yQl := yQ.lt
    have hcap : zs'.length + 1 ≤ cap' := by
      obtain ⟨_, _, _, h3, _⟩ := yQ
      simpa using h3
    gi_wp2_with fail
    · have hz : zs' = [] := by
        cases zs' with
        | nil => rfl
        | cons x l => simp at hcap; omega
      subst hz
      rw [← hK]
      refine ⟨k, by omega, ?_⟩
      unfold DI
      refine ⟨_, _, _, _, _, _, _, _, _, _, _, _, _, _, _, _, _, _, _, _, _, _, _, _, _, _, _, _, _, _, _, _, _, _, _, _, _, _, _, _, _, _, _, _, _, _, _, _, _, _, _, _, _, _, _, _, _, _, _, _, _, _, _, _, _, _, _, d', [], c9', _, ⟨i1, by omega, hI.below.alloc (by omega) _, hI.dist.alloc _, hI.box.alloc _, ⟨some ⟨b', off', none⟩, 0, by rw [← hV9]; exact rowIs_box V _ 42, fun hne => absurd rfl hne⟩, by omega, ?_⟩, rfl⟩
      exact (hml.cons (fun j o hj ho => hI.others j o ((T3.block j (Array.getElem?_eq_some_iff.1 hj).1 (fun e => e)).trans hj) ho) (by omega) (by omega) hDd).alloc _
    · rw [← hK]
      refine ⟨k, by omega, ?_⟩
      unfold DI
      refine ⟨_, _, _, _, _, _, _, _, _, _, _, _, _, _, _, _, _, _, _, _, _, _, _, _, _, _, _, _, _, _, _, _, _, _, _, _, _, _, _, _, _, _, _, _, _, _, _, _, _, _, _, _, _, _, _, _, _, _, _, _, _, _, _, _, _, _, _, d', zs', c9', _, ⟨i1, by omega, hI.below.alloc (by omega) _, hI.dist.alloc _, hI.box.alloc _, ⟨some ⟨b', off' + 1, none⟩, cap' - 1, by rw [← hV9]; exact rowIs_box V _ 42, fun _ => ⟨b', off' + 1, rfl, yQ.tail.of_block (blk_alloc_lt _ _ _ yQ.lt), hb2', by omega⟩⟩, by omega, ?_⟩, rfl⟩
      exact (hml.cons (fun j o hj ho => hI.others j o ((T3.block j (Array.getElem?_eq_some_iff.1 hj).1 (fun e => e)).trans hj) ho) (by omega) (by omega) hDd).alloc _
  case stop =>
    rintro D c pre W _ _ hF _
    exact hF.elim

set_option maxHeartbeats 4000000 in
set_option maxRecDepth 1000000 in
theorem dist_out (w0 : World) (H bG n p : Nat) (N : Nat → Nat → Bool) (k : Nat) (d : Nat → Int) (B7 : Nat) (ds : List Deferred) (W : World) (h : DRel w0 H n p N k d [] B7 ds W) (u2 u3 u4 u6 u8 u9 u10 u11 u12 u13 u14 u15 u16 u17 u18 u19 u20 u21 u22 u23 u24 u25 u26 u27 u28 u29 u30 u31 u32 u33 u34 u35 u36 u37 u38 u39 u40 u41 u42 u43 u44 u45 u46 u47 u48 u49 u50 u51 u52 u53 u54 u55 u56 u57 u58 u59 u60 u61 u62 u63 u64 u65 u66 u67 u68 u69 u70 : Value) (Q : Exit → Act → World → Prop) (K : Act → World → Prop)
    (hexit : ∀ (u2 u3 u4 u6 u8 u9 u10 u11 u12 u13 u14 u15 u16 u17 u18 u19 u20 u21 u22 u23 u24 u25 u26 u27 u28 u29 u30 u31 u32 u33 u34 u35 u36 u37 u38 u39 u40 u41 u42 u43 u44 u45 u46 u47 u48 u49 u50 u51 u52 u53 u54 u55 u56 u57 u58 u59 u60 u61 u62 u63 u64 u65 u66 u67 u68 u69 u70 : Value) (k : Nat) (d : Nat → Int) (B7 : Nat) (ds : List Deferred) (W : World), DRel w0 H n p N k d [] B7 ds W → Q (.exit 2) ⟨#[.pointer (some ⟨bG, 0, none⟩), .int .i64 ((p : Int) + 1), u2, u3, u4, .pointer (some ⟨H + 1, 0, none⟩), u6, .pointer (some ⟨B7, 0, none⟩), u8, u9, u10, u11, u12, u13, u14, u15, u16, u17, u18, u19, u20, u21, u22, u23, u24, u25, u26, u27, u28, u29, u30, u31, u32, u33, u34, u35, u36, u37, u38, u39, u40, u41, u42, u43, u44, u45, u46, u47, u48, u49, u50, u51, u52, u53, u54, u55, u56, u57, u58, u59, u60, u61, u62, u63, u64, u65, u66, u67, u68, u69, u70], ds⟩ W) :
    Code.wpIn Fence.wide 10 Tryf.prog distBody (Exit.then K Q) ⟨#[.pointer (some ⟨bG, 0, none⟩), .int .i64 ((p : Int) + 1), u2, u3, u4, .pointer (some ⟨H + 1, 0, none⟩), u6, .pointer (some ⟨B7, 0, none⟩), u8, u9, u10, u11, u12, u13, u14, u15, u16, u17, u18, u19, u20, u21, u22, u23, u24, u25, u26, u27, u28, u29, u30, u31, u32, u33, u34, u35, u36, u37, u38, u39, u40, u41, u42, u43, u44, u45, u46, u47, u48, u49, u50, u51, u52, u53, u54, u55, u56, u57, u58, u59, u60, u61, u62, u63, u64, u65, u66, u67, u68, u69, u70], ds⟩ W := by
  obtain ⟨A, cap, hb7, _⟩ := h.queue
  have c7 := hb7.cell (i := 0) (by omega)
  simp only [List.length_nil] at c7
  conv => arg 4; whnf
  gi_wp2_with fail
  exact hexit _ _ _ _ _ _ _ _ _ _ _ _ _ _ _ _ _ _ _ _ _ _ _ _ _ _ _ _ _ _ _ _ _ _ _ _ _ _ _ _ _ _ _ _ _ _ _ _ _ _ _ _ _ _ _ _ _ _ _ _ _ _ _ _ _ _ _ _ _ _ _ _ h

set_option maxHeartbeats 4000000 in
set_option maxRecDepth 1000000 in
theorem dist_loop (w0 : World) (H bG bN n m p : Nat) (B : Nat → Nat) (N : Nat → Nat → Bool) (pv : Value) (hH : H = w0.heap.size) (hg : GAt w0 bG bN n pv) (hn : NbAt w0 bN n m B N) (hm : m ≤ 16) (hnm : n ≤ 64 * m) (ht : TabAt w0) (hN : ∀ x y, N x y = true → y < n)
    (k : Nat) (d : Nat → Int) (ys : List Nat) (B7 : Nat) (ds : List Deferred) (W : World) (h : DRel w0 H n p N k d ys B7 ds W) (u2 u3 u4 u6 u8 u9 u10 u11 u12 u13 u14 u15 u16 u17 u18 u19 u20 u21 u22 u23 u24 u25 u26 u27 u28 u29 u30 u31 u32 u33 u34 u35 u36 u37 u38 u39 u40 u41 u42 u43 u44 u45 u46 u47 u48 u49 u50 u51 u52 u53 u54 u55 u56 u57 u58 u59 u60 u61 u62 u63 u64 u65 u66 u67 u68 u69 u70 : Value) (Q : Exit → Act → World → Prop)
    (hexit : ∀ (u2 u3 u4 u6 u8 u9 u10 u11 u12 u13 u14 u15 u16 u17 u18 u19 u20 u21 u22 u23 u24 u25 u26 u27 u28 u29 u30 u31 u32 u33 u34 u35 u36 u37 u38 u39 u40 u41 u42 u43 u44 u45 u46 u47 u48 u49 u50 u51 u52 u53 u54 u55 u56 u57 u58 u59 u60 u61 u62 u63 u64 u65 u66 u67 u68 u69 u70 : Value) (k : Nat) (d : Nat → Int) (B7 : Nat) (ds : List Deferred) (W : World), DRel w0 H n p N k d [] B7 ds W → Q (.exit 2) ⟨#[.pointer (some ⟨bG, 0, none⟩), .int .i64 ((p : Int) + 1), u2, u3, u4, .pointer (some ⟨H + 1, 0, none⟩), u6, .pointer (some ⟨B7, 0, none⟩), u8, u9, u10, u11, u12, u13, u14, u15, u16, u17, u18, u19, u20, u21, u22, u23, u24, u25, u26, u27, u28, u29, u30, u31, u32, u33, u34, u35, u36, u37, u38, u39, u40, u41, u42, u43, u44, u45, u46, u47, u48, u49, u50, u51, u52, u53, u54, u55, u56, u57, u58, u59, u60, u61, u62, u63, u64, u65, u66, u67, u68, u69, u70], ds⟩ W) :
    Code.wpIn Fence.wide 10 Tryf.prog (Code.loop distBody) Q ⟨#[.pointer (some ⟨bG, 0, none⟩), .int .i64 ((p : Int) + 1), u2, u3, u4, .pointer (some ⟨H + 1, 0, none⟩), u6, .pointer (some ⟨B7, 0, none⟩), u8, u9, u10, u11, u12, u13, u14, u15, u16, u17, u18, u19, u20, u21, u22, u23, u24, u25, u26, u27, u28, u29, u30, u31, u32, u33, u34, u35, u36, u37, u38, u39, u40, u41, u42, u43, u44, u45, u46, u47, u48, u49, u50, u51, u52, u53, u54, u55, u56, u57, u58, u59, u60, u61, u62, u63, u64, u65, u66, u67, u68, u69, u70], ds⟩ W := by
  refine wpIn_loop_ghost (DI w0 H bG n p N) k ?_ ?_
  · unfold DI
    exact ⟨u2, u3, u4, u6, u8, u9, u10, u11, u12, u13, u14, u15, u16, u17, u18, u19, u20, u21, u22, u23, u24, u25, u26, u27, u28, u29, u30, u31, u32, u33, u34, u35, u36, u37, u38, u39, u40, u41, u42, u43, u44, u45, u46, u47, u48, u49, u50, u51, u52, u53, u54, u55, u56, u57, u58, u59, u60, u61, u62, u63, u64, u65, u66, u67, u68, u69, u70, d, ys, B7, ds, h, rfl⟩
  · clear h
    intro k a W hI
    unfold DI at hI
    obtain ⟨u2, hI⟩ := hI
    obtain ⟨u3, hI⟩ := hI
    obtain ⟨u4, hI⟩ := hI
    obtain ⟨u6, hI⟩ := hI
    obtain ⟨u8, hI⟩ := hI
    obtain ⟨u9, hI⟩ := hI
    obtain ⟨u10, hI⟩ := hI
    obtain ⟨u11, hI⟩ := hI
    obtain ⟨u12, hI⟩ := hI
    obtain ⟨u13, hI⟩ := hI
    obtain ⟨u14, hI⟩ := hI
    obtain ⟨u15, hI⟩ := hI
    obtain ⟨u16, hI⟩ := hI
    obtain ⟨u17, hI⟩ := hI
    obtain ⟨u18, hI⟩ := hI
    obtain ⟨u19, hI⟩ := hI
    obtain ⟨u20, hI⟩ := hI
    obtain ⟨u21, hI⟩ := hI
    obtain ⟨u22, hI⟩ := hI
    obtain ⟨u23, hI⟩ := hI
    obtain ⟨u24, hI⟩ := hI
    obtain ⟨u25, hI⟩ := hI
    obtain ⟨u26, hI⟩ := hI
    obtain ⟨u27, hI⟩ := hI
    obtain ⟨u28, hI⟩ := hI
    obtain ⟨u29, hI⟩ := hI
    obtain ⟨u30, hI⟩ := hI
    obtain ⟨u31, hI⟩ := hI
    obtain ⟨u32, hI⟩ := hI
    obtain ⟨u33, hI⟩ := hI
    obtain ⟨u34, hI⟩ := hI
    obtain ⟨u35, hI⟩ := hI
    obtain ⟨u36, hI⟩ := hI
    obtain ⟨u37, hI⟩ := hI
    obtain ⟨u38, hI⟩ := hI
    obtain ⟨u39, hI⟩ := hI
    obtain ⟨u40, hI⟩ := hI
    obtain ⟨u41, hI⟩ := hI
    obtain ⟨u42, hI⟩ := hI
    obtain ⟨u43, hI⟩ := hI
    obtain ⟨u44, hI⟩ := hI
    obtain ⟨u45, hI⟩ := hI
    obtain ⟨u46, hI⟩ := hI
    obtain ⟨u47, hI⟩ := hI
    obtain ⟨u48, hI⟩ := hI
    obtain ⟨u49, hI⟩ := hI
    obtain ⟨u50, hI⟩ := hI
    obtain ⟨u51, hI⟩ := hI
    obtain ⟨u52, hI⟩ := hI
    obtain ⟨u53, hI⟩ := hI
    obtain ⟨u54, hI⟩ := hI
    obtain ⟨u55, hI⟩ := hI
    obtain ⟨u56, hI⟩ := hI
    obtain ⟨u57, hI⟩ := hI
    obtain ⟨u58, hI⟩ := hI
    obtain ⟨u59, hI⟩ := hI
    obtain ⟨u60, hI⟩ := hI
    obtain ⟨u61, hI⟩ := hI
    obtain ⟨u62, hI⟩ := hI
    obtain ⟨u63, hI⟩ := hI
    obtain ⟨u64, hI⟩ := hI
    obtain ⟨u65, hI⟩ := hI
    obtain ⟨u66, hI⟩ := hI
    obtain ⟨u67, hI⟩ := hI
    obtain ⟨u68, hI⟩ := hI
    obtain ⟨u69, hI⟩ := hI
    obtain ⟨u70, hI⟩ := hI
    obtain ⟨d, hI⟩ := hI
    obtain ⟨ys, hI⟩ := hI
    obtain ⟨B7, hI⟩ := hI
    obtain ⟨ds, h, rfl⟩ := hI
    cases ys with
    | nil => exact dist_out w0 H bG n p N k d B7 ds W h u2 u3 u4 u6 u8 u9 u10 u11 u12 u13 u14 u15 u16 u17 u18 u19 u20 u21 u22 u23 u24 u25 u26 u27 u28 u29 u30 u31 u32 u33 u34 u35 u36 u37 u38 u39 u40 u41 u42 u43 u44 u45 u46 u47 u48 u49 u50 u51 u52 u53 u54 u55 u56 u57 u58 u59 u60 u61 u62 u63 u64 u65 u66 u67 u68 u69 u70 Q _ hexit
    | cons q ys =>
      cases k with
      | zero =>
        have := h.bs.count
        simp at this
      | succ k => exact dist_round w0 H bG bN n m p B N pv hH hg hn hm hnm ht hN k d q ys B7 ds W h u2 u3 u4 u6 u8 u9 u10 u11 u12 u13 u14 u15 u16 u17 u18 u19 u20 u21 u22 u23 u24 u25 u26 u27 u28 u29 u30 u31 u32 u33 u34 u35 u36 u37 u38 u39 u40 u41 u42 u43 u44 u45 u46 u47 u48 u49 u50 u51 u52 u53 u54 u55 u56 u57 u58 u59 u60 u61 u62 u63 u64 u65 u66 u67 u68 u69 u70 Q

/-- The marks are taken on the way out: what holds of the cells holds on. -/
theorem leaves_marks {F : Fence} {n : Nat} {P : Program} {fn : Func} {tmps : Array Value} {R : Ending → World → Prop} {lo : Nat} : ∀ (Ds : List Nat) (W : World), Ds.Nodup → (∀ D ∈ Ds, lo ≤ D ∧ W.heap[D]? = some (.deferred (some []))) →
    (∀ W', Below lo W W' → (∀ (k : Nat) (o : Obj), W.heap[k]? = some o → o.isCells = true → W'.heap[k]? = some o) → LeavesIn F n P fn tmps R [] .returning W') → LeavesInM F n P fn tmps R (Ds.map fun D => { target := .collected D, args := #[] }) .returning W
  | [], W, _, _, h => h W (Below.refl _ _) (fun _ _ hk _ => hk)
  | D :: Ds, W, hnd, hD, h => by
    obtain ⟨hlo, hd⟩ := hD D (by simp)
    obtain ⟨hn1, hn2⟩ := List.nodup_cons.1 hnd
    refine ⟨by simp, .inl ⟨D, _, rfl, run_takeDeferred hd, ?_⟩⟩
    refine leaves_marks Ds (W.putObj D (.deferred none)) hn2 (fun E hE => ⟨(hD E (by simp [hE])).1, ?_⟩) (fun W' hb hc => h W' ?_ (fun k o hk ho => ?_))
    · have hne : E ≠ D := fun e => hn1 (e ▸ hE)
      rw [World.putObj_heap_other hne]
      exact (hD E (by simp [hE])).2
    · have h0 : Below lo W (W.putObj D (.deferred none)) := ⟨rfl, rfl, rfl, by simp, fun k hk => World.putObj_heap_other (show k ≠ D by omega)⟩
      exact h0.trans hb
    · refine hc k o ?_ ho
      have hne : k ≠ D := fun e => by subst e; rw [hd] at hk; cases hk; cases ho
      rw [World.putObj_heap_other hne]
      exact hk

/-- dist is made of n times -1, but for p. -/
def startD (p : Nat) : Nat → Int := fun x => if x = p then 0 else -1

theorem startD_cnt (p : Nat) : ∀ n, cntNeg (startD p) n + (if p < n then 1 else 0) = n
  | 0 => rfl
  | n + 1 => by
    have ih := startD_cnt p n
    unfold cntNeg at ih ⊢
    rw [cnt]
    by_cases e : n = p
    · subst e
      simp [startD] at ih ⊢
      omega
    · by_cases hlt : p < n
      · have h2 : p < n + 1 := by omega
        simp [startD, e, hlt, h2] at ih ⊢
        omega
      · have h2 : ¬ p < n + 1 := by omega
        simp [startD, e, hlt, h2] at ih ⊢
        omega

theorem BSearch.begin (N : Nat → Nat → Bool) (n p : Nat) (hp : p < n) : BSearch N n p (startD p) [p] n := by
  have hc := startD_cnt p n
  rw [if_pos hp] at hc
  refine ⟨⟨fun x _ => ?_, fun x _ => ?_, fun x hx => ?_, by simpa using hc⟩, by simp [startD], fun x _ h => ?_, fun x _ h => ?_⟩
  · unfold startD
    split <;> omega
  · unfold startD at *
    split <;> omega
  · have : x = p := by simpa using hx
    subst this
    exact ⟨hp, by simp [startD]⟩
  · have : x = p := by
      unfold startD at h
      split at h
      · assumption
      · omega
    subst this
    exact .here
  · have : x = p := by
      unfold startD at h
      split at h
      · assumption
      · omega
    subst this
    exact Or.inl (by simp)

/-- -1 below j, the rest noughts. -/
def fillD (j : Nat) : Nat → Value := fun i => if i < j then .int .i64 (-1) else .int .i64 0

set_option maxHeartbeats 4000000 in
set_option maxRecDepth 1000000 in
theorem distances_any (bG bN n m p : Nat) (B : Nat → Nat) (N : Nat → Nat → Bool) (pv : Value) (w : World) (hg : GAt w bG bN n pv) (hn : NbAt w bN n m B N) (hm : m ≤ 16) (hnm : n ≤ 64 * m) (ht : TabAt w) (hp : p < n) (hN : ∀ x y, N x y = true → y < n) :
    Calls Tryf.prog 42 #[.pointer (some ⟨bG, 0, none⟩), .int .i64 ((p : Int) + 1)] w fun e w' => ∃ d : Nat → Int, e = .returned (.slice (some ⟨w.heap.size, 0, none⟩) n n) ∧ w'.rowIs w.heap.size 3 n (fun i => .int .i64 (d i)) ∧ (∀ x, x < n → (0 ≤ d x ↔ Reach N p x)) ∧ Below w.heap.size w w' := by
  refine (callsIn_wide (n := 10)).1 ?_
  refine callsIn_of_wp_marks Tryf.func42 rfl trivial ?_
  simp only [Tryf.ntmps42, List.size_toArray, List.length_cons, List.length_nil, Nat.reduceAdd, Nat.reduceSub, Array.replicate_succ, Array.replicate_zero, List.push_toArray, List.append_toArray, List.nil_append, List.cons_append]
  refine wpIn_wide.2 ?_
  have c1 := hg.nb
  have hmk := run_make_row' (P := Tryf.prog) 42 3 (.int .i64 0) 8 Tryf.underlying42 Tryf.info3 rfl .i64 .i64 n (by omega) (by omega)
  obtain ⟨H, hH⟩ : ∃ H, w.heap.size = H := ⟨_, rfl⟩
  have hpz : (p : Int) < (n : Int) := by omega
  go_wp2_with fail
  go_loopg [18] n (fun g x wr => ∃ j : Nat, j ≤ n ∧ g = n - j ∧ x = .int .i64 j ∧ Below H w wr ∧ wr.heap.size = H + 2 ∧ wr.rowIs H 3 n (fillD j) ∧ wr.rowIs (H + 1) 42 1 (fun _ => .slice (some ⟨H, 0, none⟩) n n))
  case atStart =>
    refine ⟨0, Nat.zero_le _, rfl, rfl, ((Below.refl H w).alloc (by omega) _).alloc (by simp; omega) _, by simp [hH], ?_, ?_⟩
    · have := ((World.rowIs_made w (.int .i64 0) n 3).alloc (.cells #[.slice (some ⟨H, 0, none⟩) n n] 42)).congr (g := fillD 0) (fun i _ => by simp [fillD])
      rw [hH] at this
      exact this
    · have := rowIs_box (w.alloc (.cells (madeCells #[.int .i64 0] n) 3)) (.slice (some ⟨H, 0, none⟩) n n) 42
      simp only [World.size_alloc, hH] at this
      exact this
  case round =>
    obtain ⟨j, hj, rfl, rfl, hB, hsz, hr, hb⟩ := hrel
    have c5 := hb.cell (i := 0) (by omega)
    by_cases hjn : j < n
    · have hz : (j : Int) < (n : Int) := by omega
      have c6 := hr.cell hjn
      have c7 := hr.frozen j
      have h' := hr.set j (.int .i64 (-1))
      have hB' := hB.setCell (p := ⟨H, j, none⟩) (Nat.le_refl _) (.int .i64 (-1))
      have hb' := hb.setOther (a := ⟨H, j, none⟩) (by simp) (.int .i64 (-1))
      go_wp2_with fail
      go_roundg (n - (j + 1))
      case measure => omega
      case rel => exact ⟨j + 1, hjn, rfl, by go_num, hB', by simpa using hsz, h'.congr (g := fillD (j + 1)) (fun i _ => by
          unfold fillD
          by_cases e : i = j
          · simp [e]
          · have e2 : (i < j + 1) = (i < j) := by simp; omega
            simp only [e2, if_neg e]), hb'⟩
    · obtain rfl : j = n := by omega
      have c6 := hr.cell hp
      have c7 := hr.frozen p
      have h' := (hr.set p (.int .i64 0)).congr (g := fun i => .int .i64 (startD p i)) (fun i hi => by
        unfold startD fillD
        by_cases e : i = p
        · simp [e]
        · simp [e, hi])
      have hB' := hB.setCell (p := ⟨H, p, none⟩) (Nat.le_refl _) (.int .i64 0)
      have hb' := hb.setOther (a := ⟨H, p, none⟩) (by simp) (.int .i64 0)
      have hsz' : (wr.setCell ⟨H, p, none⟩ (.int .i64 0)).heap.size = H + 2 := by simpa using hsz
      generalize hV : wr.setCell ⟨H, p, none⟩ (.int .i64 0) = V at h' hB' hb' hsz'
      go_wp2_with fail
      refine (wpIn_wide (n := 10)).1 ?_
      have hrel : DRel w H j p N j (startD p) [p] (H + 2 + 1) [] ((V.alloc (.cells #[.int .i64 ((p : Int) + 1)] 3)).alloc (.cells #[.slice (some ⟨H + 2, 0, none⟩) 1 1] 42)) := by
        have hq := QAt.new V p
        have hb7 := rowIs_box (V.alloc (.cells #[.int .i64 ((p : Int) + 1)] 3)) (.slice (some ⟨H + 2, 0, none⟩) 1 1) 42
        rw [World.size_alloc, hsz'] at hb7
        rw [hsz'] at hq
        refine ⟨BSearch.begin N j p hp, Nat.le_refl _, (hB'.alloc (by omega) _).alloc (by simp; omega) _, (h'.alloc _).alloc _, (hb'.alloc _).alloc _, ⟨some ⟨H + 2, 0, none⟩, 1, hb7, fun _ => ⟨H + 2, 0, rfl, hq.of_block (blk_alloc_lt _ _ _ hq.lt), Nat.le_refl _, by omega⟩⟩, by omega, [], rfl, List.nodup_nil, fun _ h => by cases h⟩
      refine dist_loop w H bG bN j m p B N pv hH.symm hg hn hm hnm ht hN j (startD p) [p] (H + 2 + 1) [] _ hrel _ _ _ _ _ _ _ _ _ _ _ _ _ _ _ _ _ _ _ _ _ _ _ _ _ _ _ _ _ _ _ _ _ _ _ _ _ _ _ _ _ _ _ _ _ _ _ _ _ _ _ _ _ _ _ _ _ _ _ _ _ _ _ _ _ _ _ _ ?_
      clear hrel
      intro u2 u3 u4 u6 u8 u9 u10 u11 u12 u13 u14 u15 u16 u17 u18 u19 u20 u21 u22 u23 u24 u25 u26 u27 u28 u29 u30 u31 u32 u33 u34 u35 u36 u37 u38 u39 u40 u41 u42 u43 u44 u45 u46 u47 u48 u49 u50 u51 u52 u53 u54 u55 u56 u57 u58 u59 u60 u61 u62 u63 u64 u65 u66 u67 u68 u69 u70 k d B7 ds X hX
      have x5 := hX.box.cell (i := 0) (by omega)
      go_wp2_with fail
      obtain ⟨Ds, rfl, hnd, hDs⟩ := hX.marks
      refine leaves_marks Ds X hnd hDs (fun W' hb hc => ?_)
      refine ⟨_, results_tmp rfl _ _ _, d, by rw [hH]; rfl, ?_, fun x hx => hX.bs.ends hp hN x hx, ?_⟩
      · rw [hH]
        obtain ⟨c, h1, h2⟩ := hX.dist
        exact ⟨c, hc H _ h1 rfl, h2⟩
      · rw [hH]
        exact hX.below.trans (hb.mono (by omega))

end Go.Proofs.Qxb6615834aFmt
