/-
  pruneGraph: the loop over the work list. MADE BY wip/tools/genpg5.py.
-/
import Derived.Test.Qxb6615834aFmtPg35
import Derived.RegionTactic
namespace Go.Proofs.Qxb6615834aFmt
open Go.RowKit Go.Deep Go.Shelf
attribute [local go_sem] Oper.semAt_some
attribute [local go_sem] wide_fn4
attribute [local simp] wide_fn4

noncomputable def pg5Body : Code := (((Tryf.f23.body.map loopsOf).getD [])[3]?).getD .skip

/-- What stands at the head of the loop. -/
structure R5 (w0 : World) (H K n m h : Nat) (G N : Nat → Nat → Bool) (Cf : Nat → Int) (pv fv : Value) (pr fl : List (Nat × Nat)) (B : Nat) (ds : List Deferred) (W : World) : Prop where
  inv : PInv G N n h Cf fl pr
  few : edges N n + pr.length ≤ n * n
  ps : PS w0 H K n m h N Cf pv fv pr fl W
  b17 : W.rowIs B 70 1 (fun _ => lowV H K)
  hB : K + 4 ≤ B
  fB : fv.ownBlock ≠ some B
  pB : pv.ownBlock ≠ some B
  pS : ∃ g cap, pv = .slice (some ⟨g, 0, none⟩) pr.length cap
  marks : Marks W H ds

set_option maxRecDepth 1000000 in
def I5 (w0 : World) (H K n m h : Nat) (G : Nat → Nat → Bool) (k : Nat) (ac : Act) (W : World) : Prop :=
  ∃ u0 u1 u2 u4 u5 u6 u8 u9 u10 u11 u15 u16 u18 u19 u20 u21 u22 u23 u24 u25 u26 u27 u28 u29 u30 u31 u32 u33 u34 u35 u36 u37 u38 u39 u40 u41 u42 u43 u44 u45 u46 u47 u48 u49 u50 u51 u52 u53 u54 u55 u56 u57 u58 u59 u60 u61 u62 u63 u64 u65 u66 u67 u68 u69 u70 u71 u72 u73 u74 u75 u76 u77 u78 u79 u80 u81 u82 u83 u84 u85 u86 u87 u88 u89 u90 u91 u92 u93 u94 u95 u96 u97 u98 u99 u100 u101 u102 u103 u104 u105 u106 u107 u108 u109 u110 u111 u112 u113 u114 u115 u116 u117 u118 u119 u120 u121 u122 u123 u124 u125 u126 u127 u128 u129 u130 u131 u132 u133 u134 u135 u136 u137 u138 u139 u140 u141 u142 u143 u144 u145 u146 u147 u148 u149 u150 u151 u152 u153 u154 u155 u156 u157 u158 u159 u160 u161 u162 u163 u164 u165 u166 u167 u168 u169 u170 u171 u172 u173 u174 u175 u176 u177 u178 u179 u180 u181 u182 u183 u184 u185 u186 u187 u188 u189 u190 u191 u192 u193 u194 u195 u196 u197 u198 u199 u200 u201 u202 u203 u204 u205 u206 : Value, ∃ (N : Nat → Nat → Bool) (Cf : Nat → Int) (pv fv : Value) (pr fl : List (Nat × Nat)) (B : Nat) (ds : List Deferred), k = edges N n ∧ R5 w0 H K n m h G N Cf pv fv pr fl B ds W ∧ ac = ⟨#[u0, u1, u2, .pointer (some ⟨H, 0, none⟩), u4, u5, u6, .pointer (some ⟨H + 4, 0, none⟩), u8, u9, u10, u11, .pointer (some ⟨K, 0, none⟩), .pointer (some ⟨K + 2, 0, none⟩), .pointer (some ⟨K + 3, 0, none⟩), u15, u16, .pointer (some ⟨B, 0, none⟩), u18, u19, u20, u21, u22, u23, u24, u25, u26, u27, u28, u29, u30, u31, u32, u33, u34, u35, u36, u37, u38, u39, u40, u41, u42, u43, u44, u45, u46, u47, u48, u49, u50, u51, u52, u53, u54, u55, u56, u57, u58, u59, u60, u61, u62, u63, u64, u65, u66, u67, u68, u69, u70, u71, u72, u73, u74, u75, u76, u77, u78, u79, u80, u81, u82, u83, u84, u85, u86, u87, u88, u89, u90, u91, u92, u93, u94, u95, u96, u97, u98, u99, u100, u101, u102, u103, u104, u105, u106, u107, u108, u109, u110, u111, u112, u113, u114, u115, u116, u117, u118, u119, u120, u121, u122, u123, u124, u125, u126, u127, u128, u129, u130, u131, u132, u133, u134, u135, u136, u137, u138, u139, u140, u141, u142, u143, u144, u145, u146, u147, u148, u149, u150, u151, u152, u153, u154, u155, u156, u157, u158, u159, u160, u161, u162, u163, u164, u165, u166, u167, u168, u169, u170, u171, u172, u173, u174, u175, u176, u177, u178, u179, u180, u181, u182, u183, u184, u185, u186, u187, u188, u189, u190, u191, u192, u193, u194, u195, u196, u197, u198, u199, u200, u201, u202, u203, u204, u205, u206], ds⟩

set_option maxHeartbeats 4000000 in
set_option maxRecDepth 1000000 in
theorem pg5_round (w0 : World) (H K n m h : Nat) (G N : Nat → Nat → Bool) (hH : H = w0.heap.size) (hK : H + 5 + n ≤ K) (hm : m ≤ 16) (hn : n ≤ 1024) (hnm : n ≤ 64 * m) (hh : 0 < h ∧ h ≤ 1024) (ht : TabAt w0)
    (a b : Nat) (Cf : Nat → Int) (pv fv : Value) (pr fl : List (Nat × Nat)) (B : Nat) (ds : List Deferred) (W : World) (r : R5 w0 H K n m h G N Cf pv fv pr (fl ++ [(a, b)]) B ds W) (u0 u1 u2 u4 u5 u6 u8 u9 u10 u11 u15 u16 u18 u19 u20 u21 u22 u23 u24 u25 u26 u27 u28 u29 u30 u31 u32 u33 u34 u35 u36 u37 u38 u39 u40 u41 u42 u43 u44 u45 u46 u47 u48 u49 u50 u51 u52 u53 u54 u55 u56 u57 u58 u59 u60 u61 u62 u63 u64 u65 u66 u67 u68 u69 u70 u71 u72 u73 u74 u75 u76 u77 u78 u79 u80 u81 u82 u83 u84 u85 u86 u87 u88 u89 u90 u91 u92 u93 u94 u95 u96 u97 u98 u99 u100 u101 u102 u103 u104 u105 u106 u107 u108 u109 u110 u111 u112 u113 u114 u115 u116 u117 u118 u119 u120 u121 u122 u123 u124 u125 u126 u127 u128 u129 u130 u131 u132 u133 u134 u135 u136 u137 u138 u139 u140 u141 u142 u143 u144 u145 u146 u147 u148 u149 u150 u151 u152 u153 u154 u155 u156 u157 u158 u159 u160 u161 u162 u163 u164 u165 u166 u167 u168 u169 u170 u171 u172 u173 u174 u175 u176 u177 u178 u179 u180 u181 u182 u183 u184 u185 u186 u187 u188 u189 u190 u191 u192 u193 u194 u195 u196 u197 u198 u199 u200 u201 u202 u203 u204 u205 u206 : Value) (Q : Exit → Act → World → Prop) :
    Code.wpIn Fence.wide 10 Tryf.prog pg5Body (Exit.then (fun a' w' => ∃ k', k' < edges N n ∧ I5 w0 H K n m h G k' a' w') Q) ⟨#[u0, u1, u2, .pointer (some ⟨H, 0, none⟩), u4, u5, u6, .pointer (some ⟨H + 4, 0, none⟩), u8, u9, u10, u11, .pointer (some ⟨K, 0, none⟩), .pointer (some ⟨K + 2, 0, none⟩), .pointer (some ⟨K + 3, 0, none⟩), u15, u16, .pointer (some ⟨B, 0, none⟩), u18, u19, u20, u21, u22, u23, u24, u25, u26, u27, u28, u29, u30, u31, u32, u33, u34, u35, u36, u37, u38, u39, u40, u41, u42, u43, u44, u45, u46, u47, u48, u49, u50, u51, u52, u53, u54, u55, u56, u57, u58, u59, u60, u61, u62, u63, u64, u65, u66, u67, u68, u69, u70, u71, u72, u73, u74, u75, u76, u77, u78, u79, u80, u81, u82, u83, u84, u85, u86, u87, u88, u89, u90, u91, u92, u93, u94, u95, u96, u97, u98, u99, u100, u101, u102, u103, u104, u105, u106, u107, u108, u109, u110, u111, u112, u113, u114, u115, u116, u117, u118, u119, u120, u121, u122, u123, u124, u125, u126, u127, u128, u129, u130, u131, u132, u133, u134, u135, u136, u137, u138, u139, u140, u141, u142, u143, u144, u145, u146, u147, u148, u149, u150, u151, u152, u153, u154, u155, u156, u157, u158, u159, u160, u161, u162, u163, u164, u165, u166, u167, u168, u169, u170, u171, u172, u173, u174, u175, u176, u177, u178, u179, u180, u181, u182, u183, u184, u185, u186, u187, u188, u189, u190, u191, u192, u193, u194, u195, u196, u197, u198, u199, u200, u201, u202, u203, u204, u205, u206], ds⟩ W := by
  have h0lt : 0 < H := by rw [hH]; have := block_lt_of_cell (ht 0 (by omega)); simpa using this
  clear hH
  obtain ⟨hab, hbn, hNab⟩ := r.inv.flEdge (a, b) (by simp)
  simp only at hab hbn hNab
  have han : a < n := by omega
  have hnn : n * n ≤ 1048576 := Nat.mul_le_mul hn hn
  have hflN : fl.length + 1 ≤ n * n := by
    have h1 := len_edges _ N r.inv.flNodup r.inv.flEdge
    have h2 := r.few
    simp at h1
    omega
  obtain ⟨g, cap, rfl, hg, hcap, c1, c2, hpop⟩ := owns_pop r.ps.low.ff
  have c14 := r.ps.low.f14.cell (i := 0) (by omega)
  have f14 := r.ps.low.f14.frozen 0
  have hmx : Tryf.prog.follows .mixedOrders = true := by kernel_rfl
  obtain ⟨i0, hi, hz0, hz1, hz2⟩ := info_parts Tryf.info43
  generalize hKK : (fun a' w' => ∃ k', k' < edges N n ∧ I5 w0 H K n m h G k' a' w') = KK
  conv => arg 4; whnf
  have hlz : (0 : Int) < (fl.length : Int) + 1 := by omega
  obtain ⟨S1, hS1⟩ : ∃ S1, W.heap.size = S1 := ⟨_, rfl⟩
  have hsz := r.ps.size
  have T1 : Turns (fun _ => False) W (W.alloc (.cells #[.int .i64 ((a : Int) + 1), .int .i64 ((b : Int) + 1)] 43)) := (Turns.refl _ W).alloc _
  have p1 := r.ps.still hK T1
  have pop1 := T1.owns hpop (fun _ _ e => e)
  have b1 := T1.row r.b17 (fun e => e)
  have m1 := r.marks.turns T1
  have e18 : (W.alloc (.cells #[.int .i64 ((a : Int) + 1), .int .i64 ((b : Int) + 1)] 43)).rowIs S1 43 2 (fun i => if i = 0 then .int .i64 ((a : Int) + 1) else .int .i64 ((b : Int) + 1)) := by
    rw [← hS1]
    exact World.rowIs_alloc W #[.int .i64 ((a : Int) + 1), .int .i64 ((b : Int) + 1)] 43 _ (fun i hi => by
      have : i = 0 ∨ i = 1 := by simp at hi; omega
      rcases this with rfl | rfl <;> rfl)
  have z1 : (W.alloc (.cells #[.int .i64 ((a : Int) + 1), .int .i64 ((b : Int) + 1)] 43)).heap.size = S1 + 1 := by simp [hS1]
  generalize hW1 : W.alloc (.cells #[.int .i64 ((a : Int) + 1), .int .i64 ((b : Int) + 1)] 43) = W1 at T1 p1 pop1 b1 m1 e18 z1
  have d14 := p1.low.f14.cell (i := 0) (by omega)
  have df14 := p1.low.f14.frozen 0
  have hgS : g < S1 := by have := (r.ps.low.ff.lt g rfl).2; omega
  have p2 := p1.box (fl' := fl) (fv' := .slice (some ⟨g, 0, none⟩) fl.length cap) hK (Turns.refl _ W1) pop1 (fun g' e => Or.inl e)
  have T2 : Turns (fun j => j = K + 3) W1 (W1.setCell ⟨K + 3, 0, none⟩ (.slice (some ⟨g, 0, none⟩) fl.length cap)) := (Turns.refl (fun j => j = K + 3) W1).setCell (a := ⟨K + 3, 0, none⟩) rfl _
  have z2 : (W1.setCell ⟨K + 3, 0, none⟩ (.slice (some ⟨g, 0, none⟩) fl.length cap)).heap.size = S1 + 1 := by simp [z1]
  have hr1 := r.fB
  have hr2 := r.pB
  have hr3 := r.hB
  have hr4 := r.b17.lt
  have b2 := T2.row b1 (by omega)
  have e18' := T2.row e18 (by omega)
  have m2 : Marks (W1.setCell ⟨K + 3, 0, none⟩ (.slice (some ⟨g, 0, none⟩) fl.length cap)) H ds := m1.others (fun k o hk ho => by
    have hne : ¬ k = K + 3 := fun e => by
      subst e
      obtain ⟨c, hc, _⟩ := p1.low.f14
      rw [hc] at hk
      cases hk
      cases ho
    exact (T2.block k (Array.getElem?_eq_some_iff.1 hk).1 hne).trans hk)
  generalize hW2 : W1.setCell ⟨K + 3, 0, none⟩ (.slice (some ⟨g, 0, none⟩) fl.length cap) = W2 at p2 T2 z2 b2 e18' m2
  refine wpIn_wide.2 ?_
  go_wp2_with fail
  clear hW1 hW2 c14 f14 c1 c2 d14 df14 T1 T2 p1 b1 m1 e18 pop1 hpop
  have ap0 : ∀ (u v : Nat), S1 + 1 ≤ u → S1 + 1 ≤ v → Ap5 B S1 u v pv ∧ Ap5 B S1 u v (.slice (some ⟨g, 0, none⟩) fl.length cap) := fun u v hu hv => by
    have hpl : ∀ k, pv.ownBlock = some k → k < S1 := fun k e => by have := (r.ps.own.lt k e).2; omega
    refine ⟨?_, ?_⟩
    · rintro k (rfl | rfl | rfl | rfl) e
      · exact hr2 e
      · have := hpl _ e; omega
      · have := hpl _ e; omega
      · have := hpl _ e; omega
    · rintro k (rfl | rfl | rfl | rfl) e
      · exact hr1 e
      · have : g = k := by simpa [Value.ownBlock] using e
        omega
      · have : g = k := by simpa [Value.ownBlock] using e
        omega
      · have : g = k := by simpa [Value.ownBlock] using e
        omega
  have F : ∀ (u v : Int) , Turns (fun _ => False) W2 ((W2.alloc (.cells #[.int .i64 u] 3)).alloc (.cells #[.int .i64 v] 3)).drew := fun u v => (((Turns.refl _ W2).alloc _).alloc _).drew
  have F1 : ∀ (u v : Int), ((W2.alloc (.cells #[.int .i64 u] 3)).alloc (.cells #[.int .i64 v] 3)).drew.rowIs (S1 + 1) 3 1 (fun _ => .int .i64 u) ∧ ((W2.alloc (.cells #[.int .i64 u] 3)).alloc (.cells #[.int .i64 v] 3)).drew.rowIs (S1 + 1 + 1) 3 1 (fun _ => .int .i64 v) := fun u v => by
    have q1 := rowIs_box W2 (.int .i64 u) 3
    have q2 := rowIs_box (W2.alloc (.cells #[.int .i64 u] 3)) (.int .i64 v) 3
    rw [World.size_alloc, z2] at q2
    rw [z2] at q1
    exact ⟨(q1.alloc _).drew, q2.drew⟩
  obtain ⟨Q1, hQ1⟩ : ∃ Q1 : Exit → Act → World → Prop, Q1 = fun e ac V => e = .normal ∧ ∃ v142 v143 v144 v145 v146 v147 v148 v149 v150 v151 v152 v153 v154 v155 v156 v157 v158 v159 : Value, ∃ x y : Nat, ac = ⟨#[u0, u1, u2, .pointer (some ⟨H, 0, none⟩), u4, u5, u6, .pointer (some ⟨H + 4, 0, none⟩), u8, u9, u10, u11, .pointer (some ⟨K, 0, none⟩), .pointer (some ⟨K + 2, 0, none⟩), .pointer (some ⟨K + 3, 0, none⟩), u15, u16, .pointer (some ⟨B, 0, none⟩), .pointer (some ⟨S1, 0, none⟩), .pointer (some ⟨x, 0, none⟩), .pointer (some ⟨y, 0, none⟩), u21, u22, u23, u24, u25, u26, u27, u28, u29, u30, u31, u32, u33, u34, u35, u36, u37, u38, u39, u40, u41, u42, u43, u44, u45, u46, u47, u48, u49, u50, u51, u52, u53, u54, u55, u56, u57, u58, u59, u60, u61, u62, u63, u64, u65, u66, u67, u68, u69, u70, u71, u72, u73, u74, u75, u76, u77, u78, u79, u80, u81, u82, u83, u84, u85, u86, u87, u88, u89, u90, u91, u92, u93, u94, u95, u96, u97, u98, u99, u100, u101, u102, u103, u104, u105, u106, u107, u108, u109, u110, u111, u112, u113, u114, u115, u116, u117, u118, u119, u120, u121, u122, u123, u124, u125, u126, u127, u128, u129, u130, u131, u132, u133, u134, u135, u136, u137, u138, u139, u140, u141, v142, v143, v144, v145, v146, v147, v148, v149, v150, v151, v152, v153, v154, v155, v156, v157, v158, v159, u160, u161, u162, u163, u164, u165, u166, u167, u168, u169, u170, u171, u172, u173, u174, u175, u176, u177, u178, u179, u180, u181, u182, u183, u184, u185, u186, u187, u188, u189, u190, u191, u192, u193, u194, u195, u196, u197, u198, u199, u200, u201, u202, u203, u204, u205, u206], ds⟩ ∧ PS w0 H K n m h N Cf pv (.slice (some ⟨g, 0, none⟩) fl.length cap) pr fl V ∧ X5 H K B S1 x y a b ds V ∧ Ap5 B S1 x y pv ∧ Ap5 B S1 x y (.slice (some ⟨g, 0, none⟩) fl.length cap) := ⟨_, rfl⟩
  replace hQ1 := Hold.of hQ1
  refine Code.wp_mono (Q := Q1) ?cont ?reg
  case reg =>
    have y0 := e18'.cell (i := 0) (by omega)
    have y1 := e18'.cell (i := 1) (by omega)
    simp only [Nat.one_ne_zero, if_true, if_false] at y0 y1
    replace F := Hold.of F
    replace F1 := Hold.of F1
    replace ap0 := Hold.of ap0
    go_region
    all_goals unfold Hold at F F1 ap0 hQ1
    all_goals rw [hQ1]
    · refine ⟨rfl, _, _, _, _, _, _, _, _, _, _, _, _, _, _, _, _, _, _, S1 + 1, S1 + 1 + 1, rfl, p2.still hK (F _ _), ⟨(F _ _).row b2 (fun e => e), (F _ _).row e18' (fun e => e), (F1 _ _).1, (F1 _ _).2, m2.turns (F _ _), ?_⟩, ap0 _ _ (by omega) (by omega)⟩
      rintro k (rfl | rfl | rfl | rfl) <;> omega
    · refine ⟨rfl, _, _, _, _, _, _, _, _, _, _, _, _, _, _, _, _, _, _, S1 + 1 + 1, S1 + 1, rfl, p2.still hK (F _ _), ⟨(F _ _).row b2 (fun e => e), (F _ _).row e18' (fun e => e), (F1 _ _).2, (F1 _ _).1, m2.turns (F _ _), ?_⟩, ap0 _ _ (by omega) (by omega)⟩
      rintro k (rfl | rfl | rfl | rfl) <;> omega
  case cont =>
    intro e ac V hV
    unfold Hold at hQ1
    rw [hQ1] at hV
    clear hQ1
    obtain ⟨rfl, v142, v143, v144, v145, v146, v147, v148, v149, v150, v151, v152, v153, v154, v155, v156, v157, v158, v159, x, y, rfl, s3, x3, ap1, ap2⟩ := hV
    clear F F1 ap0 p2 b2 e18' m2
    dsimp only
    have c7 := s3.g7.cell (i := 0) (by omega)
    have c19 := x3.e19.cell (i := 0) (by omega)
    have c20 := x3.e20.cell (i := 0) (by omega)
    have s4 := s3.cut hK han hbn
    have x4 := x3.cut s3 hK han hbn
    go_wp2_with (go_at_call 33; refine (cut_any (H + 3) (H + 1) n m a b (fun p => H + 5 + p) N hnm hm han hbn V s3.nb pv s3.gG (fun p hp => by omega)).mono ?_; rintro e w' ⟨rfl, rfl⟩)
    generalize cutW V (fun p => H + 5 + p) N a b = V4 at s4 x4 ⊢
    clear c7 c19 c20 s3 x3
    have hprN : pr.length ≤ 1048576 := by have := r.few; omega
    refine Code.wp_mono ?cont2 (pg35 w0 H K n m h (cutN N a b) Cf pv (.slice (some ⟨g, 0, none⟩) fl.length cap) pr fl B S1 x y a b ds V4 hK hprN s4 x4 ap1 _ _ _ _ _ _ _ _ _ _ _ _ _ _ _ _ _ _ _ _ _ _ _ _ _ _ _ _ _ _ _ _ _ _ _ _ _ _ _ _ _ _ _ _ _ _ _ _ _ _ _ _ _ _ _ _ _ _ _ _ _ _ _ _ _ _ _ _ _ _ _ _ _ _ _ _ _ _ _ _ _ _ _ _ _ _ _ _ _ _ _ _ _ _ _ _ _ _ _ _ _ _ _ _ _ _ _ _ _ _ _ _ _ _ _ _ _ _ _ _ _ _ _ _ _ _ _ _ _ _ _ _ _ _ _ _ _ _ _ _ _ _ _ _ _ _ _ _ _ _ _ _ _ _ _ _ _ _ _ _ _ _ _ _ _ _ _ _ _ _ _ _ _ _ _ _ _ _ _ _ _ _ _ _ _ _ _ _ _ _ _ _ _ _ _ _ _ _ _ _ _ _ _ _ _)
    case cont2 =>
      intro e ac V hV
      clear s4 x4 ap1
      obtain ⟨rfl, v164, v165, v166, v167, v168, v169, v170, v171, v172, v173, g', cap', rfl, s5, x5, ap3⟩ := hV
      dsimp only
      have c7 := s5.g7.cell (i := 0) (by omega)
      have cG := s5.gG.nb
      have cA := s5.nb.top.cell han
      have cB := s5.nb.top.cell hbn
      have c19 := x5.e19.cell (i := 0) (by omega)
      have c20 := x5.e20.cell (i := 0) (by omega)
      have haz : (a : Int) < (n : Int) := by omega
      have hbz : (b : Int) < (n : Int) := by omega
      go_wp2_with fail
      refine (wpIn_wide (n := 10)).1 ?_
      refine wpIn_wide_tail 16 hmx (by kernel_rfl) ?_
      simp only [List.take_succ_cons, List.take_zero, List.drop_succ_cons, List.drop_zero]
      repeat (gi_big_quiet_step (fail))
      refine wpQuietIn_nil ?_
      rintro V6 ⟨nq6, hV6⟩
      have T6 : Turns (fun _ => False) V V6 := by rw [hV6]; exact (Turns.refl _ V).drewN nq6
      have s6 := s5.still hK T6
      have x6 := x5.still T6
      clear hV6 c7 cG cA cB c19 c20 s5 x5
      obtain ⟨bS, hbS⟩ : ∃ bS, V6.heap.size = bS := ⟨_, rfl⟩
      have hbK : K + 4 ≤ bS := by have := s6.size; omega
      have hSb : S1 < bS := by have := x6.lt S1 (Or.inr (Or.inl rfl)); omega
      gi_wp2_with fail
      refine (callsIn_wide.2 (common_any (H + 5 + a) (H + 5 + b) m (cutN N a b a) (cutN N a b b) hm V6 (s6.nb.rows a han) (s6.nb.rows b hbn))).mono ?_
      rintro e V7 ⟨rfl, hS7, hB7, hz7⟩
      have T7 : Turns (fun _ => False) V6 V7 := ⟨hB7.os, hB7.tape, hB7.output, hB7.size, fun k hk _ => hB7.block k hk⟩
      have s7 := s6.still hK T7
      have x7 := x6.still T7
      rw [hbS] at hS7 hz7 ⊢
      clear hB7 T7 s6 x6 T6
      gi_wp2_with fail
      refine (callsIn_wide.2 (parties_any bS m V7)).mono ?_
      rintro e w' ⟨rfl, rfl⟩
      have T8 : Turns (fun _ => False) V7 (V7.alloc (.cells #[.slice (some ⟨bS, 0, none⟩) m m] 57)) := (Turns.refl _ V7).alloc _
      have s8 := s7.still hK T8
      have x8 := x7.still T8
      have S8 := T8.row hS7 (fun e => e)
      have c9 : (V7.alloc (.cells #[.slice (some ⟨bS, 0, none⟩) m m] 57)).cell? ⟨bS + 1, 0, none⟩ = some (.slice (some ⟨bS, 0, none⟩) m m) := by
        rw [← hz7]
        exact (rowIs_box V7 _ 57).cell (by omega)
      have z8 : (V7.alloc (.cells #[.slice (some ⟨bS, 0, none⟩) m m] 57)).heap.size = bS + 2 := by simp [hz7]
      rw [hz7]
      have hfS : (Value.slice (some ⟨g, 0, none⟩) fl.length cap).ownBlock ≠ some bS := fun e => by
        have : g = bS := by simpa [Value.ownBlock] using e
        omega
      generalize V7.alloc (.cells #[.slice (some ⟨bS, 0, none⟩) m m] 57) = W3 at s8 x8 S8 c9 z8 T8 ⊢
      clear s7 x7 hS7 T8
      gi_wp2_with fail
      refine (wpIn_wide (n := 10)).1 ?_
      gi_wp2_with fail
      have hW3 : H ≤ W3.heap.size := by omega
      have ht3 : TabAt W3 := fun j hj => (s8.below.cell (p := ⟨0, j, none⟩) h0lt).trans (ht j hj)
      have hstart : ∃ fv, D5 w0 W3 H K n m h (cutN N a b) (.slice (some ⟨g', 0, none⟩) (pr.length + 1) cap') (pr ++ [(a, b)]) B S1 x y a b bS ds (Cf, fl) fv W3 := ⟨_, s8, x8, ap2, hfS, Nat.le_refl _, fun _ _ hk _ => hk⟩
      refine wpIn_rangeFunc_ownG rfl (by omega) (gf := 46) (lb := #[.pointer (some ⟨bS + 1, 0, none⟩)]) rfl trivial (enters_of Tryf.func46 (by kernel_rfl) rfl)
        (parties_stops (10 - 1) (by omega) (bS + 1) bS m (both (cutN N a b a) (cutN N a b b)) hm W3 (by omega) c9 S8 ht3) KpB.trans (fun W l o o' hl _ _ _ => ⟨World.putObj_heap_other (by omega), World.putObj_heap_other (by omega)⟩) (Below.refl _ _) (fun _ => rfl)
        (fun pre W => ∃ fv, D5 w0 W3 H K n m h (cutN N a b) (.slice (some ⟨g', 0, none⟩) (pr.length + 1) cap') (pr ++ [(a, b)]) B S1 x y a b bS ds (lowRun n h (Cf, fl) (lowPairs a b (pre.map Subtype.val))) fv W) (fun _ _ _ => False) (D5.own hW3 x8.marks) (fun _ _ _ _ _ hs _ _ => hs) hstart
        (fun c => ⟨#[u0, u1, u2, .pointer (some ⟨H, 0, none⟩), u4, u5, u6, .pointer (some ⟨H + 4, 0, none⟩), u8, u9, u10, u11, .pointer (some ⟨K, 0, none⟩), .pointer (some ⟨K + 2, 0, none⟩), .pointer (some ⟨K + 3, 0, none⟩), u15, u16, .pointer (some ⟨B, 0, none⟩), .pointer (some ⟨S1, 0, none⟩), .pointer (some ⟨x, 0, none⟩), .pointer (some ⟨y, 0, none⟩), .int .i64 ((c.1 : Int) + 1), u22, u23, u24, u25, u26, u27, u28, u29, u30, u31, u32, u33, u34, u35, u36, u37, u38, u39, u40, u41, u42, u43, u44, u45, u46, u47, u48, u49, u50, u51, u52, u53, u54, u55, u56, u57, u58, u59, u60, u61, u62, u63, u64, u65, u66, u67, u68, u69, u70, u71, u72, u73, u74, u75, u76, u77, u78, u79, u80, u81, u82, u83, u84, u85, u86, u87, u88, u89, u90, u91, u92, u93, u94, u95, u96, u97, u98, u99, u100, u101, u102, u103, u104, u105, u106, u107, u108, u109, u110, u111, u112, u113, u114, u115, u116, u117, u118, u119, u120, u121, u122, u123, u124, u125, u126, u127, u128, u129, u130, u131, u132, u133, u134, u135, u136, u137, u138, u139, u140, u141, v142, v143, v144, v145, v146, v147, v148, v149, v150, v151, v152, v153, v154, v155, v156, v157, v158, v159, .pointer (some ⟨H + 3, 0, none⟩), .int .i64 ((a : Int) + 1), .int .i64 ((b : Int) + 1), .tuple #[], v164, v165, v166, v167, v168, v169, v170, v171, v172, v173, .pointer (some ⟨H + 3, 0, none⟩), .pointer (some ⟨H + 3, 0, none⟩), .pointer (some ⟨H + 3, 0, none⟩), .slice (some ⟨H + 1, 0, none⟩) n n, .int .i64 ((a : Int) + 1), .int .i64 (a : Int), .pointer (some ⟨H + 1, a, none⟩), .slice (some ⟨H + 5 + a, 0, none⟩) m m, .pointer (some ⟨H + 3, 0, none⟩), .pointer (some ⟨H + 3, 0, none⟩), .pointer (some ⟨H + 3, 0, none⟩), .slice (some ⟨H + 1, 0, none⟩) n n, .int .i64 ((b : Int) + 1), .int .i64 (b : Int), .pointer (some ⟨H + 1, b, none⟩), .slice (some ⟨H + 5 + b, 0, none⟩) m m, .slice (some ⟨bS, 0, none⟩) m m, .func (.func 46) #[] #[.pointer (some ⟨bS + 1, 0, none⟩)], .int .i64 ((c.1 : Int) + 1), u193, u194, u195, u196, u197, u198, u199, u200, u201, u202, u203, u204, u205, u206], []⟩) ?assign ?body ?done ?stop
      case assign =>
        intro l x W K hK
        gi_wp2
        exact hK
      case body =>
        rintro l pre ⟨c, hcm, hSc⟩ V ⟨fv1, d⟩ hlt
        have hll : (lowPairs a b (pre.map Subtype.val)).length ≤ 2048 := by rw [lowPairs_length, List.length_map]; omega
        obtain ⟨a1, a2, a3, a4⟩ := low_bounds r.inv hn hab hbn hSc a (Or.inl rfl) (lowPairs a b (pre.map Subtype.val)) (by omega)
        obtain ⟨e1, e2, e3, e4⟩ := low_bounds r.inv hn hab hbn hSc b (Or.inr rfl) (lowPairs a b (pre.map Subtype.val) ++ [ordP a c]) (by rw [List.length_append, List.length_singleton]; omega)
        have l1 := lowRun_len n h (lowPairs a b (pre.map Subtype.val)) (Cf, fl)
        have l2 := lowRun_len n h (lowPairs a b (pre.map Subtype.val) ++ [ordP a c]) (Cf, fl)
        have e0 : lowRun n h (Cf, fl) (lowPairs a b ((pre ++ [(⟨c, hcm, hSc⟩ : El (both (cutN N a b a) (cutN N a b b)) m)]).map Subtype.val)) = lowStep n h (lowStep n h (lowRun n h (Cf, fl) (lowPairs a b (pre.map Subtype.val))) (ordP a c)) (ordP b c) := by
          rw [List.map_append]
          show lowRun n h (Cf, fl) (lowPairs a b (pre.map Subtype.val ++ [c])) = _
          rw [lowPairs_snoc, lowRun_snoc, lowRun_snoc]
        rw [lowRun_snoc] at e4 l2
        rw [List.length_append, List.length_singleton] at l2
        obtain ⟨st, hst⟩ : ∃ st, lowRun n h (Cf, fl) (lowPairs a b (pre.map Subtype.val)) = st := ⟨_, rfl⟩
        try dsimp only at d
        rw [hst] at d e0 l1 l2 a4 e4
        simp only at l1 l2
        generalize hI' : (fun (pre : List (El (both (cutN N a b a) (cutN N a b b)) m)) (W : World) => ∃ fv, D5 w0 W3 H K n m h (cutN N a b) (.slice (some ⟨g', 0, none⟩) (pr.length + 1) cap') (pr ++ [(a, b)]) B S1 x y a b bS ds (lowRun n h (Cf, fl) (lowPairs a b (pre.map Subtype.val))) fv W) = I
        dsimp only
        clear hst hstart c9 S8 ht3
        have c17 := d.x5.b17.cell (i := 0) (by omega)
        have c19 := d.x5.e19.cell (i := 0) (by omega)
        unfold lowV at c17
        have hsd := d.ps.size
        have hk1 := lower_any (K + 2) (K + 1) H K (K + 3) (K + 4) n h (ordP a c).1 (ordP a c).2 a c st.1 fv1 st.2 V (PS.lowB hK) (by omega) d.ps.low hn hh a1 a2 a3 a4 (by omega)
        replace e0 := Hold.of e0
        replace e4 := Hold.of e4
        gi_wp2_with fail
        refine ((callsIn_wide.2 hk1).inRound l).mono ?_
        rintro e V1 ⟨rfl, hlw⟩
        obtain ⟨fv2, d2, k1, k2, k3⟩ := d.lowered hK (by omega) hbK hlw
        clear hk1 hlw c17 c19
        have c17 := d2.x5.b17.cell (i := 0) (by omega)
        have c20 := d2.x5.e20.cell (i := 0) (by omega)
        unfold lowV at c17
        have hsd2 := d2.ps.size
        unfold Hold at e4
        have hk2 := lower_any (K + 2) (K + 1) H K (K + 3) (K + 4) n h (ordP b c).1 (ordP b c).2 b c (lowStep n h st (ordP a c)).1 fv2 (lowStep n h st (ordP a c)).2 V1 (PS.lowB hK) (by omega) d2.ps.low hn hh e1 e2 e3 e4 (by omega)
        clear e4
        gi_wp2_with fail
        refine ((callsIn_wide.2 hk2).inRound l).mono ?_
        rintro e V2 ⟨rfl, hlw⟩
        obtain ⟨fv3, d3, j1, j2, j3⟩ := d2.lowered hK (by omega) hbK hlw
        clear hk2 hlw c17 c20
        gi_wp2_with fail
        subst hI'
        unfold Hold at e0
        refine ⟨k1.trans j1, ⟨j2.trans k2, j3.trans k3⟩, fv3, ?_⟩
        rw [e0]
        exact d3
      case done =>
        rintro D xs V hD hxs ⟨fv1, d⟩ hDd
        dsimp only
        try dsimp only at d
        rw [hxs] at d
        have hne : a ≠ b := by omega
        have hmem : ∀ c, c ∈ upE (both (cutN N a b a) (cutN N a b b)) (64 * m) ↔ both (cutN N a b a) (cutN N a b b) c = true := fun c => by
          unfold upE
          rw [List.mem_filter, List.mem_range]
          refine ⟨fun h => h.2, fun h => ⟨?_, h⟩⟩
          have h1 : cutN N a b a c = true := by rw [both, Bool.and_eq_true] at h; exact h.1
          have := (r.inv.gr.cut hne).lt a c h1
          omega
        have hinv := r.inv.round (upE (both (cutN N a b a) (cutN N a b b)) (64 * m)) hmem (List.nodup_range.filter _)
        have hed := edges_cut hab hbn hNab
        have hfew := r.few
        generalize lowRun n h (Cf, fl) (lowPairs a b (upE (both (cutN N a b a) (cutN N a b b)) (64 * m))) = st at d hinv
        clear hmem hxs hstart
        obtain ⟨Cf', fl'⟩ := st
        try dsimp only at d hinv
        have hml := x8.marks.cons d.others (by omega) hD hDd
        gi_wp2_with fail
        rw [← hKK]
        refine ⟨edges (cutN N a b) n, by omega, ?_⟩
        unfold I5
        exact ⟨_, _, _, _, _, _, _, _, _, _, _, _, _, _, _, _, _, _, _, _, _, _, _, _, _, _, _, _, _, _, _, _, _, _, _, _, _, _, _, _, _, _, _, _, _, _, _, _, _, _, _, _, _, _, _, _, _, _, _, _, _, _, _, _, _, _, _, _, _, _, _, _, _, _, _, _, _, _, _, _, _, _, _, _, _, _, _, _, _, _, _, _, _, _, _, _, _, _, _, _, _, _, _, _, _, _, _, _, _, _, _, _, _, _, _, _, _, _, _, _, _, _, _, _, _, _, _, _, _, _, _, _, _, _, _, _, _, _, _, _, _, _, _, _, _, _, _, _, _, _, _, _, _, _, _, _, _, _, _, _, _, _, _, _, _, _, _, _, _, _, _, _, _, _, _, _, _, _, _, _, _, _, _, _, _, _, _, _, _, _, _, _, _, _, _, _, _, _, _, _, _, cutN N a b, Cf', .slice (some ⟨g', 0, none⟩) (pr.length + 1) cap', fv1, pr ++ [(a, b)], fl', B, _, rfl, ⟨hinv, by rw [List.length_append, List.length_singleton]; omega, d.ps, d.x5.b17, hr3, d.ap B (Or.inl rfl), ap3 B (Or.inl rfl), ⟨g', cap', by rw [List.length_append, List.length_singleton]⟩, hml⟩, rfl⟩
      case stop =>
        rintro D c pre W _ _ hF _
        exact hF.elim

set_option maxHeartbeats 4000000 in
set_option maxRecDepth 1000000 in
theorem pg5_out (w0 : World) (H K n m h : Nat) (G N : Nat → Nat → Bool) (Cf : Nat → Int) (pv fv : Value) (pr : List (Nat × Nat)) (B : Nat) (ds : List Deferred) (W : World) (r : R5 w0 H K n m h G N Cf pv fv pr [] B ds W) (u0 u1 u2 u4 u5 u6 u8 u9 u10 u11 u15 u16 u18 u19 u20 u21 u22 u23 u24 u25 u26 u27 u28 u29 u30 u31 u32 u33 u34 u35 u36 u37 u38 u39 u40 u41 u42 u43 u44 u45 u46 u47 u48 u49 u50 u51 u52 u53 u54 u55 u56 u57 u58 u59 u60 u61 u62 u63 u64 u65 u66 u67 u68 u69 u70 u71 u72 u73 u74 u75 u76 u77 u78 u79 u80 u81 u82 u83 u84 u85 u86 u87 u88 u89 u90 u91 u92 u93 u94 u95 u96 u97 u98 u99 u100 u101 u102 u103 u104 u105 u106 u107 u108 u109 u110 u111 u112 u113 u114 u115 u116 u117 u118 u119 u120 u121 u122 u123 u124 u125 u126 u127 u128 u129 u130 u131 u132 u133 u134 u135 u136 u137 u138 u139 u140 u141 u142 u143 u144 u145 u146 u147 u148 u149 u150 u151 u152 u153 u154 u155 u156 u157 u158 u159 u160 u161 u162 u163 u164 u165 u166 u167 u168 u169 u170 u171 u172 u173 u174 u175 u176 u177 u178 u179 u180 u181 u182 u183 u184 u185 u186 u187 u188 u189 u190 u191 u192 u193 u194 u195 u196 u197 u198 u199 u200 u201 u202 u203 u204 u205 u206 : Value) (Q : Exit → Act → World → Prop) (KK : Act → World → Prop)
    (hexit : ∀ (u0 u1 u2 u4 u5 u6 u8 u9 u10 u11 u15 u16 u18 u19 u20 u21 u22 u23 u24 u25 u26 u27 u28 u29 u30 u31 u32 u33 u34 u35 u36 u37 u38 u39 u40 u41 u42 u43 u44 u45 u46 u47 u48 u49 u50 u51 u52 u53 u54 u55 u56 u57 u58 u59 u60 u61 u62 u63 u64 u65 u66 u67 u68 u69 u70 u71 u72 u73 u74 u75 u76 u77 u78 u79 u80 u81 u82 u83 u84 u85 u86 u87 u88 u89 u90 u91 u92 u93 u94 u95 u96 u97 u98 u99 u100 u101 u102 u103 u104 u105 u106 u107 u108 u109 u110 u111 u112 u113 u114 u115 u116 u117 u118 u119 u120 u121 u122 u123 u124 u125 u126 u127 u128 u129 u130 u131 u132 u133 u134 u135 u136 u137 u138 u139 u140 u141 u142 u143 u144 u145 u146 u147 u148 u149 u150 u151 u152 u153 u154 u155 u156 u157 u158 u159 u160 u161 u162 u163 u164 u165 u166 u167 u168 u169 u170 u171 u172 u173 u174 u175 u176 u177 u178 u179 u180 u181 u182 u183 u184 u185 u186 u187 u188 u189 u190 u191 u192 u193 u194 u195 u196 u197 u198 u199 u200 u201 u202 u203 u204 u205 u206 : Value) (N : Nat → Nat → Bool) (Cf : Nat → Int) (pv fv : Value) (pr : List (Nat × Nat)) (B : Nat) (ds : List Deferred) (W : World), R5 w0 H K n m h G N Cf pv fv pr [] B ds W → Q (.exit 10) ⟨#[u0, u1, u2, .pointer (some ⟨H, 0, none⟩), u4, u5, u6, .pointer (some ⟨H + 4, 0, none⟩), u8, u9, u10, u11, .pointer (some ⟨K, 0, none⟩), .pointer (some ⟨K + 2, 0, none⟩), .pointer (some ⟨K + 3, 0, none⟩), u15, u16, .pointer (some ⟨B, 0, none⟩), u18, u19, u20, u21, u22, u23, u24, u25, u26, u27, u28, u29, u30, u31, u32, u33, u34, u35, u36, u37, u38, u39, u40, u41, u42, u43, u44, u45, u46, u47, u48, u49, u50, u51, u52, u53, u54, u55, u56, u57, u58, u59, u60, u61, u62, u63, u64, u65, u66, u67, u68, u69, u70, u71, u72, u73, u74, u75, u76, u77, u78, u79, u80, u81, u82, u83, u84, u85, u86, u87, u88, u89, u90, u91, u92, u93, u94, u95, u96, u97, u98, u99, u100, u101, u102, u103, u104, u105, u106, u107, u108, u109, u110, u111, u112, u113, u114, u115, u116, u117, u118, u119, u120, u121, u122, u123, u124, u125, u126, u127, u128, u129, u130, u131, u132, u133, u134, u135, u136, u137, u138, u139, u140, u141, u142, u143, u144, u145, u146, u147, u148, u149, u150, u151, u152, u153, u154, u155, u156, u157, u158, u159, u160, u161, u162, u163, u164, u165, u166, u167, u168, u169, u170, u171, u172, u173, u174, u175, u176, u177, u178, u179, u180, u181, u182, u183, u184, u185, u186, u187, u188, u189, u190, u191, u192, u193, u194, u195, u196, u197, u198, u199, u200, u201, u202, u203, u204, u205, u206], ds⟩ W) :
    Code.wpIn Fence.wide 10 Tryf.prog pg5Body (Exit.then KK Q) ⟨#[u0, u1, u2, .pointer (some ⟨H, 0, none⟩), u4, u5, u6, .pointer (some ⟨H + 4, 0, none⟩), u8, u9, u10, u11, .pointer (some ⟨K, 0, none⟩), .pointer (some ⟨K + 2, 0, none⟩), .pointer (some ⟨K + 3, 0, none⟩), u15, u16, .pointer (some ⟨B, 0, none⟩), u18, u19, u20, u21, u22, u23, u24, u25, u26, u27, u28, u29, u30, u31, u32, u33, u34, u35, u36, u37, u38, u39, u40, u41, u42, u43, u44, u45, u46, u47, u48, u49, u50, u51, u52, u53, u54, u55, u56, u57, u58, u59, u60, u61, u62, u63, u64, u65, u66, u67, u68, u69, u70, u71, u72, u73, u74, u75, u76, u77, u78, u79, u80, u81, u82, u83, u84, u85, u86, u87, u88, u89, u90, u91, u92, u93, u94, u95, u96, u97, u98, u99, u100, u101, u102, u103, u104, u105, u106, u107, u108, u109, u110, u111, u112, u113, u114, u115, u116, u117, u118, u119, u120, u121, u122, u123, u124, u125, u126, u127, u128, u129, u130, u131, u132, u133, u134, u135, u136, u137, u138, u139, u140, u141, u142, u143, u144, u145, u146, u147, u148, u149, u150, u151, u152, u153, u154, u155, u156, u157, u158, u159, u160, u161, u162, u163, u164, u165, u166, u167, u168, u169, u170, u171, u172, u173, u174, u175, u176, u177, u178, u179, u180, u181, u182, u183, u184, u185, u186, u187, u188, u189, u190, u191, u192, u193, u194, u195, u196, u197, u198, u199, u200, u201, u202, u203, u204, u205, u206], ds⟩ W := by
  have c14 := r.ps.low.f14.cell (i := 0) (by omega)
  obtain ⟨_, h0 | ⟨g, cap, cur, h1, _⟩⟩ := r.ps.low.ff
  · obtain ⟨rfl, _⟩ := h0
    conv => arg 4; whnf
    gi_wp2_with fail
    exact hexit _ _ _ _ _ _ _ _ _ _ _ _ _ _ _ _ _ _ _ _ _ _ _ _ _ _ _ _ _ _ _ _ _ _ _ _ _ _ _ _ _ _ _ _ _ _ _ _ _ _ _ _ _ _ _ _ _ _ _ _ _ _ _ _ _ _ _ _ _ _ _ _ _ _ _ _ _ _ _ _ _ _ _ _ _ _ _ _ _ _ _ _ _ _ _ _ _ _ _ _ _ _ _ _ _ _ _ _ _ _ _ _ _ _ _ _ _ _ _ _ _ _ _ _ _ _ _ _ _ _ _ _ _ _ _ _ _ _ _ _ _ _ _ _ _ _ _ _ _ _ _ _ _ _ _ _ _ _ _ _ _ _ _ _ _ _ _ _ _ _ _ _ _ _ _ _ _ _ _ _ _ _ _ _ _ _ _ _ _ _ _ _ _ _ _ _ _ _ _ _ _ _ _ _ _ _ _ _ _ r
  · subst h1
    simp only [List.length_nil] at c14
    conv => arg 4; whnf
    gi_wp2_with fail
    exact hexit _ _ _ _ _ _ _ _ _ _ _ _ _ _ _ _ _ _ _ _ _ _ _ _ _ _ _ _ _ _ _ _ _ _ _ _ _ _ _ _ _ _ _ _ _ _ _ _ _ _ _ _ _ _ _ _ _ _ _ _ _ _ _ _ _ _ _ _ _ _ _ _ _ _ _ _ _ _ _ _ _ _ _ _ _ _ _ _ _ _ _ _ _ _ _ _ _ _ _ _ _ _ _ _ _ _ _ _ _ _ _ _ _ _ _ _ _ _ _ _ _ _ _ _ _ _ _ _ _ _ _ _ _ _ _ _ _ _ _ _ _ _ _ _ _ _ _ _ _ _ _ _ _ _ _ _ _ _ _ _ _ _ _ _ _ _ _ _ _ _ _ _ _ _ _ _ _ _ _ _ _ _ _ _ _ _ _ _ _ _ _ _ _ _ _ _ _ _ _ _ _ _ _ _ _ _ _ _ _ r

set_option maxHeartbeats 4000000 in
set_option maxRecDepth 1000000 in
theorem pg5_loop (w0 : World) (H K n m h : Nat) (G N : Nat → Nat → Bool) (hH : H = w0.heap.size) (hK : H + 5 + n ≤ K) (hm : m ≤ 16) (hn : n ≤ 1024) (hnm : n ≤ 64 * m) (hh : 0 < h ∧ h ≤ 1024) (ht : TabAt w0)
    (Cf : Nat → Int) (pv fv : Value) (pr fl : List (Nat × Nat)) (B : Nat) (ds : List Deferred) (W : World) (r : R5 w0 H K n m h G N Cf pv fv pr fl B ds W) (u0 u1 u2 u4 u5 u6 u8 u9 u10 u11 u15 u16 u18 u19 u20 u21 u22 u23 u24 u25 u26 u27 u28 u29 u30 u31 u32 u33 u34 u35 u36 u37 u38 u39 u40 u41 u42 u43 u44 u45 u46 u47 u48 u49 u50 u51 u52 u53 u54 u55 u56 u57 u58 u59 u60 u61 u62 u63 u64 u65 u66 u67 u68 u69 u70 u71 u72 u73 u74 u75 u76 u77 u78 u79 u80 u81 u82 u83 u84 u85 u86 u87 u88 u89 u90 u91 u92 u93 u94 u95 u96 u97 u98 u99 u100 u101 u102 u103 u104 u105 u106 u107 u108 u109 u110 u111 u112 u113 u114 u115 u116 u117 u118 u119 u120 u121 u122 u123 u124 u125 u126 u127 u128 u129 u130 u131 u132 u133 u134 u135 u136 u137 u138 u139 u140 u141 u142 u143 u144 u145 u146 u147 u148 u149 u150 u151 u152 u153 u154 u155 u156 u157 u158 u159 u160 u161 u162 u163 u164 u165 u166 u167 u168 u169 u170 u171 u172 u173 u174 u175 u176 u177 u178 u179 u180 u181 u182 u183 u184 u185 u186 u187 u188 u189 u190 u191 u192 u193 u194 u195 u196 u197 u198 u199 u200 u201 u202 u203 u204 u205 u206 : Value) (Q : Exit → Act → World → Prop)
    (hexit : ∀ (u0 u1 u2 u4 u5 u6 u8 u9 u10 u11 u15 u16 u18 u19 u20 u21 u22 u23 u24 u25 u26 u27 u28 u29 u30 u31 u32 u33 u34 u35 u36 u37 u38 u39 u40 u41 u42 u43 u44 u45 u46 u47 u48 u49 u50 u51 u52 u53 u54 u55 u56 u57 u58 u59 u60 u61 u62 u63 u64 u65 u66 u67 u68 u69 u70 u71 u72 u73 u74 u75 u76 u77 u78 u79 u80 u81 u82 u83 u84 u85 u86 u87 u88 u89 u90 u91 u92 u93 u94 u95 u96 u97 u98 u99 u100 u101 u102 u103 u104 u105 u106 u107 u108 u109 u110 u111 u112 u113 u114 u115 u116 u117 u118 u119 u120 u121 u122 u123 u124 u125 u126 u127 u128 u129 u130 u131 u132 u133 u134 u135 u136 u137 u138 u139 u140 u141 u142 u143 u144 u145 u146 u147 u148 u149 u150 u151 u152 u153 u154 u155 u156 u157 u158 u159 u160 u161 u162 u163 u164 u165 u166 u167 u168 u169 u170 u171 u172 u173 u174 u175 u176 u177 u178 u179 u180 u181 u182 u183 u184 u185 u186 u187 u188 u189 u190 u191 u192 u193 u194 u195 u196 u197 u198 u199 u200 u201 u202 u203 u204 u205 u206 : Value) (N : Nat → Nat → Bool) (Cf : Nat → Int) (pv fv : Value) (pr : List (Nat × Nat)) (B : Nat) (ds : List Deferred) (W : World), R5 w0 H K n m h G N Cf pv fv pr [] B ds W → Q (.exit 10) ⟨#[u0, u1, u2, .pointer (some ⟨H, 0, none⟩), u4, u5, u6, .pointer (some ⟨H + 4, 0, none⟩), u8, u9, u10, u11, .pointer (some ⟨K, 0, none⟩), .pointer (some ⟨K + 2, 0, none⟩), .pointer (some ⟨K + 3, 0, none⟩), u15, u16, .pointer (some ⟨B, 0, none⟩), u18, u19, u20, u21, u22, u23, u24, u25, u26, u27, u28, u29, u30, u31, u32, u33, u34, u35, u36, u37, u38, u39, u40, u41, u42, u43, u44, u45, u46, u47, u48, u49, u50, u51, u52, u53, u54, u55, u56, u57, u58, u59, u60, u61, u62, u63, u64, u65, u66, u67, u68, u69, u70, u71, u72, u73, u74, u75, u76, u77, u78, u79, u80, u81, u82, u83, u84, u85, u86, u87, u88, u89, u90, u91, u92, u93, u94, u95, u96, u97, u98, u99, u100, u101, u102, u103, u104, u105, u106, u107, u108, u109, u110, u111, u112, u113, u114, u115, u116, u117, u118, u119, u120, u121, u122, u123, u124, u125, u126, u127, u128, u129, u130, u131, u132, u133, u134, u135, u136, u137, u138, u139, u140, u141, u142, u143, u144, u145, u146, u147, u148, u149, u150, u151, u152, u153, u154, u155, u156, u157, u158, u159, u160, u161, u162, u163, u164, u165, u166, u167, u168, u169, u170, u171, u172, u173, u174, u175, u176, u177, u178, u179, u180, u181, u182, u183, u184, u185, u186, u187, u188, u189, u190, u191, u192, u193, u194, u195, u196, u197, u198, u199, u200, u201, u202, u203, u204, u205, u206], ds⟩ W) :
    Code.wpIn Fence.wide 10 Tryf.prog (Code.loop pg5Body) Q ⟨#[u0, u1, u2, .pointer (some ⟨H, 0, none⟩), u4, u5, u6, .pointer (some ⟨H + 4, 0, none⟩), u8, u9, u10, u11, .pointer (some ⟨K, 0, none⟩), .pointer (some ⟨K + 2, 0, none⟩), .pointer (some ⟨K + 3, 0, none⟩), u15, u16, .pointer (some ⟨B, 0, none⟩), u18, u19, u20, u21, u22, u23, u24, u25, u26, u27, u28, u29, u30, u31, u32, u33, u34, u35, u36, u37, u38, u39, u40, u41, u42, u43, u44, u45, u46, u47, u48, u49, u50, u51, u52, u53, u54, u55, u56, u57, u58, u59, u60, u61, u62, u63, u64, u65, u66, u67, u68, u69, u70, u71, u72, u73, u74, u75, u76, u77, u78, u79, u80, u81, u82, u83, u84, u85, u86, u87, u88, u89, u90, u91, u92, u93, u94, u95, u96, u97, u98, u99, u100, u101, u102, u103, u104, u105, u106, u107, u108, u109, u110, u111, u112, u113, u114, u115, u116, u117, u118, u119, u120, u121, u122, u123, u124, u125, u126, u127, u128, u129, u130, u131, u132, u133, u134, u135, u136, u137, u138, u139, u140, u141, u142, u143, u144, u145, u146, u147, u148, u149, u150, u151, u152, u153, u154, u155, u156, u157, u158, u159, u160, u161, u162, u163, u164, u165, u166, u167, u168, u169, u170, u171, u172, u173, u174, u175, u176, u177, u178, u179, u180, u181, u182, u183, u184, u185, u186, u187, u188, u189, u190, u191, u192, u193, u194, u195, u196, u197, u198, u199, u200, u201, u202, u203, u204, u205, u206], ds⟩ W := by
  refine wpIn_loop_ghost (I5 w0 H K n m h G) (edges N n) ?_ ?_
  · unfold I5
    exact ⟨u0, u1, u2, u4, u5, u6, u8, u9, u10, u11, u15, u16, u18, u19, u20, u21, u22, u23, u24, u25, u26, u27, u28, u29, u30, u31, u32, u33, u34, u35, u36, u37, u38, u39, u40, u41, u42, u43, u44, u45, u46, u47, u48, u49, u50, u51, u52, u53, u54, u55, u56, u57, u58, u59, u60, u61, u62, u63, u64, u65, u66, u67, u68, u69, u70, u71, u72, u73, u74, u75, u76, u77, u78, u79, u80, u81, u82, u83, u84, u85, u86, u87, u88, u89, u90, u91, u92, u93, u94, u95, u96, u97, u98, u99, u100, u101, u102, u103, u104, u105, u106, u107, u108, u109, u110, u111, u112, u113, u114, u115, u116, u117, u118, u119, u120, u121, u122, u123, u124, u125, u126, u127, u128, u129, u130, u131, u132, u133, u134, u135, u136, u137, u138, u139, u140, u141, u142, u143, u144, u145, u146, u147, u148, u149, u150, u151, u152, u153, u154, u155, u156, u157, u158, u159, u160, u161, u162, u163, u164, u165, u166, u167, u168, u169, u170, u171, u172, u173, u174, u175, u176, u177, u178, u179, u180, u181, u182, u183, u184, u185, u186, u187, u188, u189, u190, u191, u192, u193, u194, u195, u196, u197, u198, u199, u200, u201, u202, u203, u204, u205, u206, N, Cf, pv, fv, pr, fl, B, ds, rfl, r, rfl⟩
  · clear r
    intro k ac W hI
    unfold I5 at hI
    obtain ⟨u0, hI⟩ := hI
    obtain ⟨u1, hI⟩ := hI
    obtain ⟨u2, hI⟩ := hI
    obtain ⟨u4, hI⟩ := hI
    obtain ⟨u5, hI⟩ := hI
    obtain ⟨u6, hI⟩ := hI
    obtain ⟨u8, hI⟩ := hI
    obtain ⟨u9, hI⟩ := hI
    obtain ⟨u10, hI⟩ := hI
    obtain ⟨u11, hI⟩ := hI
    obtain ⟨u15, hI⟩ := hI
    obtain ⟨u16, hI⟩ := hI
    obtain ⟨u18, hI⟩ := hI
    obtain ⟨u19, hI⟩ := hI
    obtain ⟨u20, hI⟩ := hI
    obtain ⟨u21, hI⟩ := hI
    obtain ⟨u22, hI⟩ := hI
    obtain ⟨u23, hI⟩ := hI
    obtain ⟨u24, hI⟩ := hI
    obtain ⟨u25, hI⟩ := hI
    obtain ⟨u26, hI⟩ := hI
    obtain ⟨u27, hI⟩ := hI
    obtain ⟨u28, hI⟩ := hI
    obtain ⟨u29, hI⟩ := hI
    obtain ⟨u30, hI⟩ := hI
    obtain ⟨u31, hI⟩ := hI
    obtain ⟨u32, hI⟩ := hI
    obtain ⟨u33, hI⟩ := hI
    obtain ⟨u34, hI⟩ := hI
    obtain ⟨u35, hI⟩ := hI
    obtain ⟨u36, hI⟩ := hI
    obtain ⟨u37, hI⟩ := hI
    obtain ⟨u38, hI⟩ := hI
    obtain ⟨u39, hI⟩ := hI
    obtain ⟨u40, hI⟩ := hI
    obtain ⟨u41, hI⟩ := hI
    obtain ⟨u42, hI⟩ := hI
    obtain ⟨u43, hI⟩ := hI
    obtain ⟨u44, hI⟩ := hI
    obtain ⟨u45, hI⟩ := hI
    obtain ⟨u46, hI⟩ := hI
    obtain ⟨u47, hI⟩ := hI
    obtain ⟨u48, hI⟩ := hI
    obtain ⟨u49, hI⟩ := hI
    obtain ⟨u50, hI⟩ := hI
    obtain ⟨u51, hI⟩ := hI
    obtain ⟨u52, hI⟩ := hI
    obtain ⟨u53, hI⟩ := hI
    obtain ⟨u54, hI⟩ := hI
    obtain ⟨u55, hI⟩ := hI
    obtain ⟨u56, hI⟩ := hI
    obtain ⟨u57, hI⟩ := hI
    obtain ⟨u58, hI⟩ := hI
    obtain ⟨u59, hI⟩ := hI
    obtain ⟨u60, hI⟩ := hI
    obtain ⟨u61, hI⟩ := hI
    obtain ⟨u62, hI⟩ := hI
    obtain ⟨u63, hI⟩ := hI
    obtain ⟨u64, hI⟩ := hI
    obtain ⟨u65, hI⟩ := hI
    obtain ⟨u66, hI⟩ := hI
    obtain ⟨u67, hI⟩ := hI
    obtain ⟨u68, hI⟩ := hI
    obtain ⟨u69, hI⟩ := hI
    obtain ⟨u70, hI⟩ := hI
    obtain ⟨u71, hI⟩ := hI
    obtain ⟨u72, hI⟩ := hI
    obtain ⟨u73, hI⟩ := hI
    obtain ⟨u74, hI⟩ := hI
    obtain ⟨u75, hI⟩ := hI
    obtain ⟨u76, hI⟩ := hI
    obtain ⟨u77, hI⟩ := hI
    obtain ⟨u78, hI⟩ := hI
    obtain ⟨u79, hI⟩ := hI
    obtain ⟨u80, hI⟩ := hI
    obtain ⟨u81, hI⟩ := hI
    obtain ⟨u82, hI⟩ := hI
    obtain ⟨u83, hI⟩ := hI
    obtain ⟨u84, hI⟩ := hI
    obtain ⟨u85, hI⟩ := hI
    obtain ⟨u86, hI⟩ := hI
    obtain ⟨u87, hI⟩ := hI
    obtain ⟨u88, hI⟩ := hI
    obtain ⟨u89, hI⟩ := hI
    obtain ⟨u90, hI⟩ := hI
    obtain ⟨u91, hI⟩ := hI
    obtain ⟨u92, hI⟩ := hI
    obtain ⟨u93, hI⟩ := hI
    obtain ⟨u94, hI⟩ := hI
    obtain ⟨u95, hI⟩ := hI
    obtain ⟨u96, hI⟩ := hI
    obtain ⟨u97, hI⟩ := hI
    obtain ⟨u98, hI⟩ := hI
    obtain ⟨u99, hI⟩ := hI
    obtain ⟨u100, hI⟩ := hI
    obtain ⟨u101, hI⟩ := hI
    obtain ⟨u102, hI⟩ := hI
    obtain ⟨u103, hI⟩ := hI
    obtain ⟨u104, hI⟩ := hI
    obtain ⟨u105, hI⟩ := hI
    obtain ⟨u106, hI⟩ := hI
    obtain ⟨u107, hI⟩ := hI
    obtain ⟨u108, hI⟩ := hI
    obtain ⟨u109, hI⟩ := hI
    obtain ⟨u110, hI⟩ := hI
    obtain ⟨u111, hI⟩ := hI
    obtain ⟨u112, hI⟩ := hI
    obtain ⟨u113, hI⟩ := hI
    obtain ⟨u114, hI⟩ := hI
    obtain ⟨u115, hI⟩ := hI
    obtain ⟨u116, hI⟩ := hI
    obtain ⟨u117, hI⟩ := hI
    obtain ⟨u118, hI⟩ := hI
    obtain ⟨u119, hI⟩ := hI
    obtain ⟨u120, hI⟩ := hI
    obtain ⟨u121, hI⟩ := hI
    obtain ⟨u122, hI⟩ := hI
    obtain ⟨u123, hI⟩ := hI
    obtain ⟨u124, hI⟩ := hI
    obtain ⟨u125, hI⟩ := hI
    obtain ⟨u126, hI⟩ := hI
    obtain ⟨u127, hI⟩ := hI
    obtain ⟨u128, hI⟩ := hI
    obtain ⟨u129, hI⟩ := hI
    obtain ⟨u130, hI⟩ := hI
    obtain ⟨u131, hI⟩ := hI
    obtain ⟨u132, hI⟩ := hI
    obtain ⟨u133, hI⟩ := hI
    obtain ⟨u134, hI⟩ := hI
    obtain ⟨u135, hI⟩ := hI
    obtain ⟨u136, hI⟩ := hI
    obtain ⟨u137, hI⟩ := hI
    obtain ⟨u138, hI⟩ := hI
    obtain ⟨u139, hI⟩ := hI
    obtain ⟨u140, hI⟩ := hI
    obtain ⟨u141, hI⟩ := hI
    obtain ⟨u142, hI⟩ := hI
    obtain ⟨u143, hI⟩ := hI
    obtain ⟨u144, hI⟩ := hI
    obtain ⟨u145, hI⟩ := hI
    obtain ⟨u146, hI⟩ := hI
    obtain ⟨u147, hI⟩ := hI
    obtain ⟨u148, hI⟩ := hI
    obtain ⟨u149, hI⟩ := hI
    obtain ⟨u150, hI⟩ := hI
    obtain ⟨u151, hI⟩ := hI
    obtain ⟨u152, hI⟩ := hI
    obtain ⟨u153, hI⟩ := hI
    obtain ⟨u154, hI⟩ := hI
    obtain ⟨u155, hI⟩ := hI
    obtain ⟨u156, hI⟩ := hI
    obtain ⟨u157, hI⟩ := hI
    obtain ⟨u158, hI⟩ := hI
    obtain ⟨u159, hI⟩ := hI
    obtain ⟨u160, hI⟩ := hI
    obtain ⟨u161, hI⟩ := hI
    obtain ⟨u162, hI⟩ := hI
    obtain ⟨u163, hI⟩ := hI
    obtain ⟨u164, hI⟩ := hI
    obtain ⟨u165, hI⟩ := hI
    obtain ⟨u166, hI⟩ := hI
    obtain ⟨u167, hI⟩ := hI
    obtain ⟨u168, hI⟩ := hI
    obtain ⟨u169, hI⟩ := hI
    obtain ⟨u170, hI⟩ := hI
    obtain ⟨u171, hI⟩ := hI
    obtain ⟨u172, hI⟩ := hI
    obtain ⟨u173, hI⟩ := hI
    obtain ⟨u174, hI⟩ := hI
    obtain ⟨u175, hI⟩ := hI
    obtain ⟨u176, hI⟩ := hI
    obtain ⟨u177, hI⟩ := hI
    obtain ⟨u178, hI⟩ := hI
    obtain ⟨u179, hI⟩ := hI
    obtain ⟨u180, hI⟩ := hI
    obtain ⟨u181, hI⟩ := hI
    obtain ⟨u182, hI⟩ := hI
    obtain ⟨u183, hI⟩ := hI
    obtain ⟨u184, hI⟩ := hI
    obtain ⟨u185, hI⟩ := hI
    obtain ⟨u186, hI⟩ := hI
    obtain ⟨u187, hI⟩ := hI
    obtain ⟨u188, hI⟩ := hI
    obtain ⟨u189, hI⟩ := hI
    obtain ⟨u190, hI⟩ := hI
    obtain ⟨u191, hI⟩ := hI
    obtain ⟨u192, hI⟩ := hI
    obtain ⟨u193, hI⟩ := hI
    obtain ⟨u194, hI⟩ := hI
    obtain ⟨u195, hI⟩ := hI
    obtain ⟨u196, hI⟩ := hI
    obtain ⟨u197, hI⟩ := hI
    obtain ⟨u198, hI⟩ := hI
    obtain ⟨u199, hI⟩ := hI
    obtain ⟨u200, hI⟩ := hI
    obtain ⟨u201, hI⟩ := hI
    obtain ⟨u202, hI⟩ := hI
    obtain ⟨u203, hI⟩ := hI
    obtain ⟨u204, hI⟩ := hI
    obtain ⟨u205, hI⟩ := hI
    obtain ⟨u206, hI⟩ := hI
    obtain ⟨N, hI⟩ := hI
    obtain ⟨Cf, hI⟩ := hI
    obtain ⟨pv, hI⟩ := hI
    obtain ⟨fv, hI⟩ := hI
    obtain ⟨pr, hI⟩ := hI
    obtain ⟨fl, hI⟩ := hI
    obtain ⟨B, hI⟩ := hI
    obtain ⟨ds, rfl, r, rfl⟩ := hI
    rcases List.eq_nil_or_concat fl with rfl | ⟨fl', ⟨a, b⟩, rfl⟩
    · exact pg5_out w0 H K n m h G N Cf pv fv pr B ds W r u0 u1 u2 u4 u5 u6 u8 u9 u10 u11 u15 u16 u18 u19 u20 u21 u22 u23 u24 u25 u26 u27 u28 u29 u30 u31 u32 u33 u34 u35 u36 u37 u38 u39 u40 u41 u42 u43 u44 u45 u46 u47 u48 u49 u50 u51 u52 u53 u54 u55 u56 u57 u58 u59 u60 u61 u62 u63 u64 u65 u66 u67 u68 u69 u70 u71 u72 u73 u74 u75 u76 u77 u78 u79 u80 u81 u82 u83 u84 u85 u86 u87 u88 u89 u90 u91 u92 u93 u94 u95 u96 u97 u98 u99 u100 u101 u102 u103 u104 u105 u106 u107 u108 u109 u110 u111 u112 u113 u114 u115 u116 u117 u118 u119 u120 u121 u122 u123 u124 u125 u126 u127 u128 u129 u130 u131 u132 u133 u134 u135 u136 u137 u138 u139 u140 u141 u142 u143 u144 u145 u146 u147 u148 u149 u150 u151 u152 u153 u154 u155 u156 u157 u158 u159 u160 u161 u162 u163 u164 u165 u166 u167 u168 u169 u170 u171 u172 u173 u174 u175 u176 u177 u178 u179 u180 u181 u182 u183 u184 u185 u186 u187 u188 u189 u190 u191 u192 u193 u194 u195 u196 u197 u198 u199 u200 u201 u202 u203 u204 u205 u206 Q _ hexit
    · rw [List.concat_eq_append] at r
      exact pg5_round w0 H K n m h G N hH hK hm hn hnm hh ht a b Cf pv fv pr fl' B ds W r u0 u1 u2 u4 u5 u6 u8 u9 u10 u11 u15 u16 u18 u19 u20 u21 u22 u23 u24 u25 u26 u27 u28 u29 u30 u31 u32 u33 u34 u35 u36 u37 u38 u39 u40 u41 u42 u43 u44 u45 u46 u47 u48 u49 u50 u51 u52 u53 u54 u55 u56 u57 u58 u59 u60 u61 u62 u63 u64 u65 u66 u67 u68 u69 u70 u71 u72 u73 u74 u75 u76 u77 u78 u79 u80 u81 u82 u83 u84 u85 u86 u87 u88 u89 u90 u91 u92 u93 u94 u95 u96 u97 u98 u99 u100 u101 u102 u103 u104 u105 u106 u107 u108 u109 u110 u111 u112 u113 u114 u115 u116 u117 u118 u119 u120 u121 u122 u123 u124 u125 u126 u127 u128 u129 u130 u131 u132 u133 u134 u135 u136 u137 u138 u139 u140 u141 u142 u143 u144 u145 u146 u147 u148 u149 u150 u151 u152 u153 u154 u155 u156 u157 u158 u159 u160 u161 u162 u163 u164 u165 u166 u167 u168 u169 u170 u171 u172 u173 u174 u175 u176 u177 u178 u179 u180 u181 u182 u183 u184 u185 u186 u187 u188 u189 u190 u191 u192 u193 u194 u195 u196 u197 u198 u199 u200 u201 u202 u203 u204 u205 u206 Q

end Go.Proofs.Qxb6615834aFmt
