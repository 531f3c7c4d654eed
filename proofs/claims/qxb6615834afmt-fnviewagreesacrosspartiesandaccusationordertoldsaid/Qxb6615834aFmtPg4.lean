/-
  pruneGraph: the loop that takes the first counts. MADE BY wip/tools/genpg4.py.
-/
import Derived.Test.Qxb6615834aFmtPst
import Derived.Maps.OwnIn
namespace Go.Proofs.Qxb6615834aFmt
theorem wide_fn4 (f : FuncId) : Fence.wide.fn f = True := rfl
attribute [local go_sem] wide_fn4
attribute [local simp] wide_fn4
open Go.RowKit Go.Deep Go.Shelf
attribute [local go_sem] Oper.semAt_some

noncomputable def pg4Body : Code := (((Tryf.f23.body.map loopsOf).getD [])[2]?).getD .skip

def Hold (p : Prop) : Prop := p
theorem Hold.mk {p : Prop} (h : Hold p) : p := h

/-- The empty row of pruned pairs. -/
def noPr (H : Nat) : Value := .slice (some ⟨H + 2, 0, none⟩) 0 0

/-- What stands between two rounds of the loop over a's neighbours. -/
structure D4 (w0 W3 : World) (H K n m h : Nat) (G : Nat → Nat → Bool) (a B : Nat) (st : (Nat → Int) × List (Nat × Nat)) (fv : Value) (W : World) : Prop where
  ps : PS w0 H K n m h G st.1 (noPr H) fv [] st.2 W
  b15 : W.rowIs B 3 1 (fun _ => .int .i64 ((a : Int) + 1))
  fB : fv.ownBlock ≠ some B
  size : W3.heap.size ≤ W.heap.size
  others : ∀ (k : Nat) (o : Obj), W3.heap[k]? = some o → o.isCells = false → W.heap[k]? = some o

theorem D4.own {β : Type} {w0 W3 : World} {H K n m h : Nat} {G : Nat → Nat → Bool} {a B : Nat} {st : β → (Nat → Int) × List (Nat × Nat)} (hH : H ≤ W3.heap.size) : OwnFrom W3.heap.size (fun s W => ∃ fv, D4 w0 W3 H K n m h G a B (st s) fv W) := by
  rintro s W W' row ⟨fv, d⟩ hg hr
  have hr' : ∀ r, row = some r → ∃ o : Obj, W.heap[r]? = some o ∧ o.isCells = false := fun r e => (hr r e).2
  have hk := KC.grown hg hr'
  have hb : Below H W W' := (Below.refl H W).grown hg (by have := d.size; omega) (fun k e => by have := (hr k e).1; omega)
  refine ⟨fv, d.ps.kc hb hk, hk.row d.b15, d.fB, Nat.le_trans d.size hg.size, fun k o hk ho => ?_⟩
  have hlt : k < W3.heap.size := (Array.getElem?_eq_some_iff.1 hk).1
  rw [hg.block k (by have := d.size; omega) (fun e => by have := (hr k e.symm).1; omega)]
  exact d.others k o hk ho

/-- What stands at the head of the loop. -/
structure R4 (w0 : World) (H K n m h : Nat) (G : Nat → Nat → Bool) (a : Nat) (Cf : Nat → Int) (fl : List (Nat × Nat)) (fv : Value) (B : Nat) (ds : List Deferred) (W : World) : Prop where
  ini : Ini G n h Cf fl a []
  len : fl.length ≤ a * 1024
  ps : PS w0 H K n m h G Cf (noPr H) fv [] fl W
  b15 : W.rowIs B 3 1 (fun _ => .int .i64 ((a : Int) + 1))
  hB : K + 4 ≤ B
  fB : fv.ownBlock ≠ some B
  an : a ≤ n
  marks : Marks W H ds

set_option maxRecDepth 1000000 in
def I4 (w0 : World) (H K n m h : Nat) (G : Nat → Nat → Bool) (k : Nat) (ac : Act) (W : World) : Prop :=
  ∃ u0 u1 u2 u4 u5 u6 u8 u9 u10 u11 u16 u17 u18 u19 u20 u21 u22 u23 u24 u25 u26 u27 u28 u29 u30 u31 u32 u33 u34 u35 u36 u37 u38 u39 u40 u41 u42 u43 u44 u45 u46 u47 u48 u49 u50 u51 u52 u53 u54 u55 u56 u57 u58 u59 u60 u61 u62 u63 u64 u65 u66 u67 u68 u69 u70 u71 u72 u73 u74 u75 u76 u77 u78 u79 u80 u81 u82 u83 u84 u85 u86 u87 u88 u89 u90 u91 u92 u93 u94 u95 u96 u97 u98 u99 u100 u101 u102 u103 u104 u105 u106 u107 u108 u109 u110 u111 u112 u113 u114 u115 u116 u117 u118 u119 u120 u121 u122 u123 u124 u125 u126 u127 u128 u129 u130 u131 u132 u133 u134 u135 u136 u137 u138 u139 u140 u141 u142 u143 u144 u145 u146 u147 u148 u149 u150 u151 u152 u153 u154 u155 u156 u157 u158 u159 u160 u161 u162 u163 u164 u165 u166 u167 u168 u169 u170 u171 u172 u173 u174 u175 u176 u177 u178 u179 u180 u181 u182 u183 u184 u185 u186 u187 u188 u189 u190 u191 u192 u193 u194 u195 u196 u197 u198 u199 u200 u201 u202 u203 u204 u205 u206 : Value, ∃ (a : Nat) (Cf : Nat → Int) (fl : List (Nat × Nat)) (fv : Value) (B : Nat) (ds : List Deferred), k = n - a ∧ R4 w0 H K n m h G a Cf fl fv B ds W ∧ ac = ⟨#[u0, u1, u2, .pointer (some ⟨H, 0, none⟩), u4, u5, u6, .pointer (some ⟨H + 4, 0, none⟩), u8, u9, u10, u11, .pointer (some ⟨K, 0, none⟩), .pointer (some ⟨K + 2, 0, none⟩), .pointer (some ⟨K + 3, 0, none⟩), .pointer (some ⟨B, 0, none⟩), u16, u17, u18, u19, u20, u21, u22, u23, u24, u25, u26, u27, u28, u29, u30, u31, u32, u33, u34, u35, u36, u37, u38, u39, u40, u41, u42, u43, u44, u45, u46, u47, u48, u49, u50, u51, u52, u53, u54, u55, u56, u57, u58, u59, u60, u61, u62, u63, u64, u65, u66, u67, u68, u69, u70, u71, u72, u73, u74, u75, u76, u77, u78, u79, u80, u81, u82, u83, u84, u85, u86, u87, u88, u89, u90, u91, u92, u93, u94, u95, u96, u97, u98, u99, u100, u101, u102, u103, u104, u105, u106, u107, u108, u109, u110, u111, u112, u113, u114, u115, u116, u117, u118, u119, u120, u121, u122, u123, u124, u125, u126, u127, u128, u129, u130, u131, u132, u133, u134, u135, u136, u137, u138, u139, u140, u141, u142, u143, u144, u145, u146, u147, u148, u149, u150, u151, u152, u153, u154, u155, u156, u157, u158, u159, u160, u161, u162, u163, u164, u165, u166, u167, u168, u169, u170, u171, u172, u173, u174, u175, u176, u177, u178, u179, u180, u181, u182, u183, u184, u185, u186, u187, u188, u189, u190, u191, u192, u193, u194, u195, u196, u197, u198, u199, u200, u201, u202, u203, u204, u205, u206], ds⟩

set_option maxHeartbeats 4000000 in
set_option maxRecDepth 1000000 in
theorem pg4_round (w0 : World) (H K n m h : Nat) (G : Nat → Nat → Bool) (hH : H = w0.heap.size) (hK : H + 5 + n ≤ K) (hm : m ≤ 16) (hn : n ≤ 1024) (hnm : n ≤ 64 * m) (hh : 0 < h ∧ h ≤ 1024) (ht : TabAt w0) (hG : Gr G n)
    (a : Nat) (ha : a < n) (Cf : Nat → Int) (fl : List (Nat × Nat)) (fv : Value) (B : Nat) (ds : List Deferred) (W : World) (r : R4 w0 H K n m h G a Cf fl fv B ds W) (u0 u1 u2 u4 u5 u6 u8 u9 u10 u11 u16 u17 u18 u19 u20 u21 u22 u23 u24 u25 u26 u27 u28 u29 u30 u31 u32 u33 u34 u35 u36 u37 u38 u39 u40 u41 u42 u43 u44 u45 u46 u47 u48 u49 u50 u51 u52 u53 u54 u55 u56 u57 u58 u59 u60 u61 u62 u63 u64 u65 u66 u67 u68 u69 u70 u71 u72 u73 u74 u75 u76 u77 u78 u79 u80 u81 u82 u83 u84 u85 u86 u87 u88 u89 u90 u91 u92 u93 u94 u95 u96 u97 u98 u99 u100 u101 u102 u103 u104 u105 u106 u107 u108 u109 u110 u111 u112 u113 u114 u115 u116 u117 u118 u119 u120 u121 u122 u123 u124 u125 u126 u127 u128 u129 u130 u131 u132 u133 u134 u135 u136 u137 u138 u139 u140 u141 u142 u143 u144 u145 u146 u147 u148 u149 u150 u151 u152 u153 u154 u155 u156 u157 u158 u159 u160 u161 u162 u163 u164 u165 u166 u167 u168 u169 u170 u171 u172 u173 u174 u175 u176 u177 u178 u179 u180 u181 u182 u183 u184 u185 u186 u187 u188 u189 u190 u191 u192 u193 u194 u195 u196 u197 u198 u199 u200 u201 u202 u203 u204 u205 u206 : Value) (Q : Exit → Act → World → Prop) :
    Code.wpIn Fence.wide 10 Tryf.prog pg4Body (Exit.then (fun a' w' => ∃ k', k' < n - a ∧ I4 w0 H K n m h G k' a' w') Q) ⟨#[u0, u1, u2, .pointer (some ⟨H, 0, none⟩), u4, u5, u6, .pointer (some ⟨H + 4, 0, none⟩), u8, u9, u10, u11, .pointer (some ⟨K, 0, none⟩), .pointer (some ⟨K + 2, 0, none⟩), .pointer (some ⟨K + 3, 0, none⟩), .pointer (some ⟨B, 0, none⟩), u16, u17, u18, u19, u20, u21, u22, u23, u24, u25, u26, u27, u28, u29, u30, u31, u32, u33, u34, u35, u36, u37, u38, u39, u40, u41, u42, u43, u44, u45, u46, u47, u48, u49, u50, u51, u52, u53, u54, u55, u56, u57, u58, u59, u60, u61, u62, u63, u64, u65, u66, u67, u68, u69, u70, u71, u72, u73, u74, u75, u76, u77, u78, u79, u80, u81, u82, u83, u84, u85, u86, u87, u88, u89, u90, u91, u92, u93, u94, u95, u96, u97, u98, u99, u100, u101, u102, u103, u104, u105, u106, u107, u108, u109, u110, u111, u112, u113, u114, u115, u116, u117, u118, u119, u120, u121, u122, u123, u124, u125, u126, u127, u128, u129, u130, u131, u132, u133, u134, u135, u136, u137, u138, u139, u140, u141, u142, u143, u144, u145, u146, u147, u148, u149, u150, u151, u152, u153, u154, u155, u156, u157, u158, u159, u160, u161, u162, u163, u164, u165, u166, u167, u168, u169, u170, u171, u172, u173, u174, u175, u176, u177, u178, u179, u180, u181, u182, u183, u184, u185, u186, u187, u188, u189, u190, u191, u192, u193, u194, u195, u196, u197, u198, u199, u200, u201, u202, u203, u204, u205, u206], ds⟩ W := by
  have h0lt : 0 < H := by rw [hH]; have := block_lt_of_cell (ht 0 (by omega)); simpa using this
  clear hH
  have c3 := r.ps.low.n3.cell (i := 0) (by omega)
  have c15 := r.b15.cell (i := 0) (by omega)
  have c7 := r.ps.g7.cell (i := 0) (by omega)
  have cG := r.ps.gG.nb
  have cN := r.ps.nb.top.cell ha
  have hmx : Tryf.prog.follows .mixedOrders = true := by kernel_rfl
  obtain ⟨i0, hi, hz0, hz1, hz2⟩ := info_parts Tryf.info43
  generalize hKK : (fun a' w' => ∃ k', k' < n - a ∧ I4 w0 H K n m h G k' a' w') = KK
  conv => arg 4; whnf
  have haz : (a : Int) < (n : Int) := by omega
  have haz2 : (a : Int) + 1 ≤ (n : Int) := by omega
  gi_wp2_with fail
  refine wpIn_wide_tail 8 hmx (by kernel_rfl) ?_
  simp only [List.take_succ_cons, List.take_zero, List.drop_succ_cons, List.drop_zero]
  repeat (gi_big_quiet_step (fail))
  refine wpQuietIn_nil ?_
  rintro W2 ⟨nq, hW2⟩
  have T2 : Turns (fun _ => False) W W2 := by rw [hW2]; exact (Turns.refl _ W).drewN nq
  have s2 : PS w0 H K n m h G Cf (noPr H) fv [] fl W2 := r.ps.still hK T2
  have hsz := r.ps.size
  have hsz2 := s2.size
  have b2 := T2.row r.b15 (fun e => e)
  clear hW2
  gi_wp2_with fail
  refine (callsIn_wide.2 (parties_any (H + 5 + a) m W2)).mono ?_
  rintro e w' ⟨rfl, rfl⟩
  obtain ⟨S2, hS2⟩ : ∃ S2, W2.heap.size = S2 := ⟨_, rfl⟩
  have T3 : Turns (fun _ => False) W2 (W2.alloc (.cells #[.slice (some ⟨H + 5 + a, 0, none⟩) m m] 57)) := (Turns.refl _ W2).alloc _
  have s3 := s2.still hK T3
  have b3 := T3.row b2 (fun e => e)
  have c9 : (W2.alloc (.cells #[.slice (some ⟨H + 5 + a, 0, none⟩) m m] 57)).cell? ⟨S2, 0, none⟩ = some (.slice (some ⟨H + 5 + a, 0, none⟩) m m) := by
    rw [← hS2]
    exact (rowIs_box W2 _ 57).cell (by omega)
  have z3 : (W2.alloc (.cells #[.slice (some ⟨H + 5 + a, 0, none⟩) m m] 57)).heap.size = S2 + 1 := by simp [hS2]
  have m3 : Marks (W2.alloc (.cells #[.slice (some ⟨H + 5 + a, 0, none⟩) m m] 57)) H ds := (r.marks.turns T2).turns T3
  rw [hS2]
  generalize W2.alloc (.cells #[.slice (some ⟨H + 5 + a, 0, none⟩) m m] 57) = W3 at s3 b3 c9 z3 m3 T3 ⊢
  gi_wp2_with fail
  have hBlt := r.b15.lt
  have hB2 := T2.size
  have hW3 : H ≤ W3.heap.size := by omega
  have hq1 : SetAt W3 (H + 5 + a) m (G a) := s3.nb.rows a ha
  have ht3 : TabAt W3 := fun j hj => (s3.below.cell (p := ⟨0, j, none⟩) h0lt).trans (ht j hj)
  have hstart : ∃ fv, D4 w0 W3 H K n m h G a B (Cf, fl) fv W3 := ⟨fv, s3, b3, r.fB, Nat.le_refl _, fun _ _ hk _ => hk⟩
  refine wpIn_rangeFunc_ownG rfl (by omega) (gf := 46) (lb := #[.pointer (some ⟨S2, 0, none⟩)]) rfl trivial (enters_of Tryf.func46 (by kernel_rfl) rfl)
    (parties_stops (10 - 1) (by omega) S2 (H + 5 + a) m (G a) hm W3 (by omega) c9 hq1 ht3) KpB.trans (fun W l o o' hl _ _ _ => ⟨World.putObj_heap_other (by omega), World.putObj_heap_other (by omega)⟩) (Below.refl _ _) (fun _ => rfl)
    (fun pre W => ∃ fv, D4 w0 W3 H K n m h G a B (iniRun G n h a (Cf, fl) (pre.map Subtype.val)) fv W) (fun _ _ _ => False) (D4.own hW3) (fun _ _ _ _ _ hs _ _ => hs) hstart
    (fun x => ⟨#[u0, u1, u2, .pointer (some ⟨H, 0, none⟩), u4, u5, u6, .pointer (some ⟨H + 4, 0, none⟩), u8, u9, u10, u11, .pointer (some ⟨K, 0, none⟩), .pointer (some ⟨K + 2, 0, none⟩), .pointer (some ⟨K + 3, 0, none⟩), .pointer (some ⟨B, 0, none⟩), .int .i64 ((x.1 : Int) + 1), u17, u18, u19, u20, u21, u22, u23, u24, u25, u26, u27, u28, u29, u30, u31, u32, u33, u34, u35, u36, u37, u38, u39, u40, u41, u42, u43, u44, u45, u46, u47, u48, u49, u50, u51, u52, u53, u54, u55, u56, u57, u58, u59, u60, u61, u62, u63, u64, u65, u66, u67, u68, u69, u70, u71, u72, u73, u74, u75, .int .i64 ((a : Int) + 1), .int .i64 (n : Int), .bool true, u79, u80, .pointer (some ⟨H + 3, 0, none⟩), .pointer (some ⟨H + 3, 0, none⟩), .pointer (some ⟨H + 3, 0, none⟩), .slice (some ⟨H + 1, 0, none⟩) n n, .int .i64 ((a : Int) + 1), .int .i64 (a : Int), .pointer (some ⟨H + 1, a, none⟩), .slice (some ⟨H + 5 + a, 0, none⟩) m m, .func (.func 46) #[] #[.pointer (some ⟨S2, 0, none⟩)], .int .i64 ((x.1 : Int) + 1), u91, u92, u93, u94, u95, u96, u97, u98, u99, u100, u101, u102, u103, u104, u105, u106, u107, u108, u109, u110, u111, u112, u113, u114, u115, u116, u117, u118, u119, u120, u121, u122, u123, u124, u125, u126, u127, u128, u129, u130, u131, u132, u133, u134, u135, u136, u137, u138, u139, u140, u141, u142, u143, u144, u145, u146, u147, u148, u149, u150, u151, u152, u153, u154, u155, u156, u157, u158, u159, u160, u161, u162, u163, u164, u165, u166, u167, u168, u169, u170, u171, u172, u173, u174, u175, u176, u177, u178, u179, u180, u181, u182, u183, u184, u185, u186, u187, u188, u189, u190, u191, u192, u193, u194, u195, u196, u197, u198, u199, u200, u201, u202, u203, u204, u205, u206], []⟩) ?assign ?body ?done ?stop
  case assign =>
    intro l x W K hK
    gi_wp2
    exact hK
  case body =>
    rintro l pre ⟨y, hym, hSy⟩ V ⟨fv1, d⟩ hlt
    have hyn : y < n := hG.lt a y hSy
    have e0 : iniRun G n h a (Cf, fl) ((pre ++ [(⟨y, hym, hSy⟩ : El (G a) m)]).map Subtype.val) = iniStep G n h a (iniRun G n h a (Cf, fl) (pre.map Subtype.val)) y := by
      rw [List.map_append]
      exact iniRun_snoc _ _ _ _ _ _ _
    have hlen := iniRun_len G n h a (pre.map Subtype.val) (Cf, fl)
    rw [List.length_map] at hlen
    obtain ⟨st, hst⟩ : ∃ st, iniRun G n h a (Cf, fl) (pre.map Subtype.val) = st := ⟨_, rfl⟩
    try dsimp only at d
    rw [hst] at d e0 hlen
    have hfl0 := r.len
    have hfl1 : st.2.length ≤ 100000000 := by
      have h1 : fl.length ≤ 1024 * 1024 := Nat.le_trans hfl0 (Nat.mul_le_mul_right _ (by omega))
      simp only at hlen
      omega
    generalize hI' : (fun (pre : List (El (G a) m)) (W : World) => ∃ fv, D4 w0 W3 H K n m h G a B (iniRun G n h a (Cf, fl) (pre.map Subtype.val)) fv W) = I
    dsimp only
    clear hst hstart c9 hq1 ht3 hlen hfl0
    have c3 := d.ps.low.n3.cell (i := 0) (by omega)
    have c15 := d.b15.cell (i := 0) (by omega)
    have hBl := r.hB
    have hBe := d.b15.lt
    by_cases hle : y ≤ a
    · have hlez : (y : Int) + 1 ≤ (a : Int) + 1 := by omega
      gi_wp2_with fail
      subst hI'
      refine ⟨KeepsFrom.refl _ _, KpB.refl _ _, fv1, ?_⟩
      rw [e0, iniStep, if_pos hle]
      exact d
    · have hlez : ¬ ((y : Int) + 1 ≤ (a : Int) + 1) := by omega
      obtain ⟨p, hp⟩ : ∃ p, a * n = p := ⟨_, rfl⟩
      have hpn : p + n ≤ n * n := by
        rw [← hp, ← Nat.succ_mul]
        exact Nat.mul_le_mul_right _ (by omega)
      have hnn : n * n ≤ 1048576 := Nat.mul_le_mul hn hn
      have hpi : (a : Int) * (n : Int) = (p : Int) := by rw [← hp]; simp
      obtain ⟨cc, hcc⟩ : ∃ cc, comm G n a y = cc := ⟨_, rfl⟩
      have hccn : cc ≤ 1024 := by have := comm_le G n a y; omega
      have hcon : ∀ q, Calls Tryf.prog 35 #[.slice (some ⟨H + 5 + a, 0, none⟩) m m, .slice (some ⟨H + 5 + y, 0, none⟩) m m] (V.drewN q) fun e w' => e = .returned (.int .i64 (cc : Int)) ∧ ∃ j, w' = (V.drewN q).drewN j := fun q => by
        have e1 : cnt (both (G a) (G y)) (64 * m) = cc := by
          have h1 := cnt_beyond (S := both (G a) (G y)) (n := n) (fun x hx => by
            cases e : G a x with
            | false => simp [both, e]
            | true => have := hG.lt a x e; omega) (64 * m - n)
          rw [← hcc, comm, ← h1]
          congr 1
          omega
        have := commonCount_any (H + 5 + a) (H + 5 + y) m (G a) (G y) hm (V.drewN q) (d.ps.nb.rows a ha) (d.ps.nb.rows y hyn)
        rw [e1] at this
        exact this
      have hyz : (y : Int) < (n : Int) := by omega
      have c7 := d.ps.g7.cell (i := 0) (by omega)
      have cG := d.ps.gG.nb
      have cN := d.ps.nb.top.cell ha
      have cY := d.ps.nb.top.cell hyn
      have c13 := d.ps.low.c13.cell (i := 0) (by omega)
      have hkN : p + y < n * n := by omega
      have hkz : (p : Int) + (y : Int) < ((n * n : Nat) : Int) := by omega
      have hw1 : IntKind.i32.wrap (cc : Int) = (cc : Int) := by rw [IntKind.wrap_i32]; omega
      have hw2 : IntKind.i32.wrap (h : Int) = (h : Int) := by rw [IntKind.wrap_i32]; omega
      generalize hNN : n * n = nn at c13 hkz hkN hnn hpn
      gi_wp2_with fail
      refine wpIn_round_tail 27 hmx (by kernel_rfl) (by kernel_rfl) ?_
      simp only [List.take_succ_cons, List.take_zero, List.drop_succ_cons, List.drop_zero]
      repeat (gi_big_quiet_step (first | (gi_at_call 35; refine CallsIn.quiet_of (callsIn_wide.2 (hcon _)))))
      refine wpQuietIn_nil ?_
      rintro V2 ⟨nq2, hV2⟩
      have T4 : Turns (fun _ => False) V V2 := by rw [hV2]; exact (Turns.refl _ V).drewN nq2
      clear hV2 hcon
      have p2 := d.ps.still hK T4
      have x1 := p2.low.cC.cell (i := p + y) (by omega)
      have x2 := p2.low.cC.frozen (p + y)
      generalize hV5 : V2.setCell ⟨K + 1, p + y, none⟩ (.int .i32 (cc : Int)) = V5
      have p5 : PS w0 H K n m h G (putI st.1 (p + y) (cc : Int)) (noPr H) fv1 [] st.2 V5 := by rw [← hV5]; exact p2.store hK (p + y) (cc : Int)
      have T5 : Turns (fun j => j = K + 1) V V5 := by rw [← hV5]; exact (T4.mono (M := fun j => j = K + 1) (fun _ _ e => e.elim)).setCell (a := ⟨K + 1, p + y, none⟩) rfl _
      gi_wp2_with fail
      clear hV5 x1 x2 T4 p2 c13 c7 cG cN cY c3 c15
      have q5 := T5.row d.b15 (by omega)
      have c3 := p5.low.n3.cell (i := 0) (by omega)
      have c15 := q5.cell (i := 0) (by omega)
      have c12 := p5.low.h12.cell (i := 0) (by omega)
      have c13 := p5.low.c13.cell (i := 0) (by omega)
      have cC := p5.low.cC.cell (i := p + y) (by omega)
      have cCe : putI st.1 (p + y) (cc : Int) (p + y) = (cc : Int) := by simp [putI]
      rw [cCe] at cC
      rw [hNN] at c13
      refine wpIn_round_quiet hmx (by kernel_rfl) (by kernel_rfl) ?_
      repeat (gi_big_quiet_step (fail))
      refine wpQuietIn_nil ?_
      rintro V6 ⟨nq6, hV6⟩
      have U6 : Turns (fun _ => False) V5 V6 := by rw [hV6]; exact (Turns.refl _ V5).drewN nq6
      have T6 : Turns (fun j => j = K + 1) V V6 := by rw [hV6]; exact T5.drewN nq6
      clear hV6 c3 c15 c12 c13 cC cCe T5
      have p6 := p5.still hK U6
      have q6 := U6.row q5 (fun e => e)
      clear p5 q5 U6
      have c14 := p6.low.f14.cell (i := 0) (by omega)
      have c15 := q6.cell (i := 0) (by omega)
      have hst1 : iniStep G n h a st y = (putI st.1 (p + y) (cc : Int), if cc < h then st.2 ++ [(a, y)] else st.2) := by
        rw [iniStep, if_neg hle, hp, hcc]
      have keep : ∀ (V' : World) (L : Nat → Prop), Turns L V V' → (∀ k, L k → k = K + 1 ∨ k = K + 3 ∨ fv1.ownBlock = some k) → KeepsFrom W3.heap.size V V' ∧ KpB (H + 5 + a) V V' ∧ W3.heap.size ≤ V'.heap.size ∧ (∀ (k : Nat) (o : Obj), W3.heap[k]? = some o → o.isCells = false → V'.heap[k]? = some o) := fun V' L T hL => by
        have hfv : ∀ j, fv1.ownBlock = some j → K + 4 ≤ j := fun j e => (d.ps.low.ff.lt j e).1
        have KO := T.keeps (fun j hj => by
          rcases hL j hj with rfl | rfl | e
          · obtain ⟨c, hc, _⟩ := d.ps.low.cC; exact ⟨_, hc, rfl⟩
          · obtain ⟨c, hc, _⟩ := d.ps.low.f14; exact ⟨_, hc, rfl⟩
          · obtain ⟨_, h0 | ⟨g, cap, cur, rfl, _, h2, _⟩⟩ := d.ps.low.ff
            · rw [h0.1] at e; cases e
            · have : g = j := by simpa [Value.ownBlock] using e
              subst this
              exact ⟨_, h2, rfl⟩)
        have hsz' := d.size
        have hps := d.ps.size
        have hno : ∀ k, k < K → ¬ L k := fun k hk e => by
          rcases hL k e with h1 | h1 | h1
          · omega
          · omega
          · have := hfv k h1; omega
        exact ⟨KO.from _, ⟨T.block _ (by omega) (hno _ (by omega)), T.block _ (by omega) (hno _ (by omega))⟩, Nat.le_trans hsz' T.size, fun j o hj ho => KO.same j o (d.others j o hj ho) ho⟩
      by_cases hch : cc < h
      · have hchz : (cc : Int) < (h : Int) := by omega
        have hsz6 := p6.size
        have hne : fv1.ownBlock ≠ some (K + 3) := fun e => by have := (p6.low.ff.lt _ e).1; omega
        gi_wp2_with (gi_at_builtin; refine Hold.mk ?_)
        unfold Hold
        refine wpListIn_append_own_at _ rfl _ _ 27 rfl (K + 4) 43 i0 (.agg #[.int .i64 0, .int .i64 0]) 2 16 Tryf.underlying27 hi hz0 hz1 hz2 rfl (by decide) _ _ _ rfl (p6.low.ff.alloc _) ⟨V6.heap.size, 0, none⟩ 1 1 [.int .i64 ((a : Int) + 1), .int .i64 ((y : Int) + 1)] rfl rfl (cell_two_new _ _ _ _) (by simp [Value.oneCell']) (by unfold maxLen; omega) (by omega) (by rw [World.size_alloc]; omega) ?_
        intro v' w1 hown' hgrow _ hat
        obtain ⟨g', cap', rfl⟩ := ownsRow_succ hown'
        have T7 : Turns (fun j => fv1.ownBlock = some j) V6 w1 := ((Turns.refl _ V6).alloc _).grown hgrow (fun k e => e)
        have r14 := T7.row p6.low.f14 hne
        have c14' := r14.cell (i := 0) (by omega)
        have f14' := r14.frozen 0
        gi_wp2_with fail
        have T8 : Turns (fun j => j = K + 1 ∨ j = K + 3 ∨ fv1.ownBlock = some j) V (w1.setCell ⟨K + 3, 0, none⟩ (.slice (some ⟨g', 0, none⟩) (st.2.length + 1) cap')) :=
          ((T6.mono (M := fun j => j = K + 1 ∨ j = K + 3 ∨ fv1.ownBlock = some j) fun _ _ e => Or.inl e).trans (T7.mono fun _ _ e => Or.inr (Or.inr e))).setCell (a := ⟨K + 3, 0, none⟩) (Or.inr (Or.inl rfl)) _
        obtain ⟨k1, k2, k3, k4⟩ := keep _ _ T8 (fun k e => e)
        have hV6 := T6.size
        have hat2 : ∀ g, (Value.slice (some ⟨g', 0, none⟩) (st.2.length + 1) cap').ownBlock = some g → fv1.ownBlock = some g ∨ V6.heap.size ≤ g := fun g e => by
          rcases hat with h1 | h1
          · exact Or.inl (h1 ▸ e)
          · rw [e] at h1
            simp at h1
            omega
        have p9 := p6.box (fl' := st.2 ++ [(a, y)]) hK T7 (by rw [List.length_append, pairCells_append]; exact hown') hat2
        subst hI'
        refine ⟨k1, k2, .slice (some ⟨g', 0, none⟩) (st.2.length + 1) cap', ?_⟩
        rw [e0, hst1, if_pos hch]
        refine ⟨p9, T8.row d.b15 ?_, fun e => ?_, k3, k4⟩
        · rintro (e | e | e)
          · omega
          · omega
          · exact d.fB e
        · rcases hat2 B e with h1 | h1
          · exact d.fB h1
          · omega
      · have hchz : ¬ ((cc : Int) < (h : Int)) := by omega
        gi_wp2_with fail
        obtain ⟨k1, k2, k3, k4⟩ := keep _ _ T6 (fun k e => Or.inl e)
        rw [z3] at k1
        subst hI'
        refine ⟨k1, k2, fv1, ?_⟩
        rw [e0, hst1, if_neg hch]
        exact ⟨p6, q6, d.fB, k3, k4⟩
  case done =>
    rintro D xs V hD hxs ⟨fv1, d⟩ hDd
    dsimp only
    try dsimp only at d
    rw [hxs] at d
    have hmem : ∀ y, y ∈ upE (G a) (64 * m) ↔ G a y = true := fun y => by
      unfold upE
      rw [List.mem_filter, List.mem_range]
      exact ⟨fun h => h.2, fun h => ⟨by have := hG.lt a y h; omega, h⟩⟩
    have hnd : (upE (G a) (64 * m)).Nodup := List.nodup_range.filter _
    have hini := r.ini.round (upE (G a) (64 * m)) hnd hmem (hG.lt a)
    have hlen := iniRun_len G n h a (upE (G a) (64 * m)) (Cf, fl)
    have hul := upE_length_le (G a) (64 * m)
    generalize iniRun G n h a (Cf, fl) (upE (G a) (64 * m)) = st at d hini hlen
    clear hmem hnd hxs
    obtain ⟨Cf', fl'⟩ := st
    try dsimp only at d hini hlen
    have hl' : fl'.length ≤ (a + 1) * 1024 := by have := r.len; omega
    have c15 := d.b15.cell (i := 0) (by omega)
    obtain ⟨S9, hS9⟩ : ∃ S9, V.heap.size = S9 := ⟨_, rfl⟩
    have hml := m3.cons d.others (by omega) hD hDd
    have hps := d.ps.size
    have T9 : Turns (fun _ => False) V (V.alloc (.cells #[.int .i64 ((a : Int) + 1 + 1)] 3)) := (Turns.refl _ V).alloc _
    have p9 := d.ps.still hK T9
    have b9 : (V.alloc (.cells #[.int .i64 ((a : Int) + 1 + 1)] 3)).rowIs S9 3 1 (fun _ => .int .i64 (((a + 1 : Nat) : Int) + 1)) := by
      rw [← hS9]
      exact rowIs_box V _ 3
    have m9 := hml.turns T9
    have hf9 : fv1.ownBlock ≠ some S9 := fun e => by have := (d.ps.low.ff.lt _ e).2; omega
    gi_wp2_with fail
    rw [← hKK]
    refine ⟨n - (a + 1), by omega, ?_⟩
    unfold I4
    exact ⟨_, _, _, _, _, _, _, _, _, _, _, _, _, _, _, _, _, _, _, _, _, _, _, _, _, _, _, _, _, _, _, _, _, _, _, _, _, _, _, _, _, _, _, _, _, _, _, _, _, _, _, _, _, _, _, _, _, _, _, _, _, _, _, _, _, _, _, _, _, _, _, _, _, _, _, _, _, _, _, _, _, _, _, _, _, _, _, _, _, _, _, _, _, _, _, _, _, _, _, _, _, _, _, _, _, _, _, _, _, _, _, _, _, _, _, _, _, _, _, _, _, _, _, _, _, _, _, _, _, _, _, _, _, _, _, _, _, _, _, _, _, _, _, _, _, _, _, _, _, _, _, _, _, _, _, _, _, _, _, _, _, _, _, _, _, _, _, _, _, _, _, _, _, _, _, _, _, _, _, _, _, _, _, _, _, _, _, _, _, _, _, _, _, _, _, _, _, _, _, _, _, a + 1, Cf', fl', fv1, S9, _, rfl, ⟨hini, hl', p9, b9, by omega, hf9, by omega, m9⟩, rfl⟩
  case stop =>
    rintro D c pre W _ _ hF _
    exact hF.elim

set_option maxHeartbeats 4000000 in
set_option maxRecDepth 1000000 in
theorem pg4_out (w0 : World) (H K n m h : Nat) (G : Nat → Nat → Bool) (a : Nat) (ha : n ≤ a) (hn : n ≤ 1024) (Cf : Nat → Int) (fl : List (Nat × Nat)) (fv : Value) (B : Nat) (ds : List Deferred) (W : World) (r : R4 w0 H K n m h G a Cf fl fv B ds W) (u0 u1 u2 u4 u5 u6 u8 u9 u10 u11 u16 u17 u18 u19 u20 u21 u22 u23 u24 u25 u26 u27 u28 u29 u30 u31 u32 u33 u34 u35 u36 u37 u38 u39 u40 u41 u42 u43 u44 u45 u46 u47 u48 u49 u50 u51 u52 u53 u54 u55 u56 u57 u58 u59 u60 u61 u62 u63 u64 u65 u66 u67 u68 u69 u70 u71 u72 u73 u74 u75 u76 u77 u78 u79 u80 u81 u82 u83 u84 u85 u86 u87 u88 u89 u90 u91 u92 u93 u94 u95 u96 u97 u98 u99 u100 u101 u102 u103 u104 u105 u106 u107 u108 u109 u110 u111 u112 u113 u114 u115 u116 u117 u118 u119 u120 u121 u122 u123 u124 u125 u126 u127 u128 u129 u130 u131 u132 u133 u134 u135 u136 u137 u138 u139 u140 u141 u142 u143 u144 u145 u146 u147 u148 u149 u150 u151 u152 u153 u154 u155 u156 u157 u158 u159 u160 u161 u162 u163 u164 u165 u166 u167 u168 u169 u170 u171 u172 u173 u174 u175 u176 u177 u178 u179 u180 u181 u182 u183 u184 u185 u186 u187 u188 u189 u190 u191 u192 u193 u194 u195 u196 u197 u198 u199 u200 u201 u202 u203 u204 u205 u206 : Value) (Q : Exit → Act → World → Prop) (KK : Act → World → Prop)
    (hexit : ∀ (u0 u1 u2 u4 u5 u6 u8 u9 u10 u11 u16 u17 u18 u19 u20 u21 u22 u23 u24 u25 u26 u27 u28 u29 u30 u31 u32 u33 u34 u35 u36 u37 u38 u39 u40 u41 u42 u43 u44 u45 u46 u47 u48 u49 u50 u51 u52 u53 u54 u55 u56 u57 u58 u59 u60 u61 u62 u63 u64 u65 u66 u67 u68 u69 u70 u71 u72 u73 u74 u75 u76 u77 u78 u79 u80 u81 u82 u83 u84 u85 u86 u87 u88 u89 u90 u91 u92 u93 u94 u95 u96 u97 u98 u99 u100 u101 u102 u103 u104 u105 u106 u107 u108 u109 u110 u111 u112 u113 u114 u115 u116 u117 u118 u119 u120 u121 u122 u123 u124 u125 u126 u127 u128 u129 u130 u131 u132 u133 u134 u135 u136 u137 u138 u139 u140 u141 u142 u143 u144 u145 u146 u147 u148 u149 u150 u151 u152 u153 u154 u155 u156 u157 u158 u159 u160 u161 u162 u163 u164 u165 u166 u167 u168 u169 u170 u171 u172 u173 u174 u175 u176 u177 u178 u179 u180 u181 u182 u183 u184 u185 u186 u187 u188 u189 u190 u191 u192 u193 u194 u195 u196 u197 u198 u199 u200 u201 u202 u203 u204 u205 u206 : Value) (Cf : Nat → Int) (fl : List (Nat × Nat)) (fv : Value) (B : Nat) (ds : List Deferred) (W : World), R4 w0 H K n m h G n Cf fl fv B ds W → Q (.exit 6) ⟨#[u0, u1, u2, .pointer (some ⟨H, 0, none⟩), u4, u5, u6, .pointer (some ⟨H + 4, 0, none⟩), u8, u9, u10, u11, .pointer (some ⟨K, 0, none⟩), .pointer (some ⟨K + 2, 0, none⟩), .pointer (some ⟨K + 3, 0, none⟩), .pointer (some ⟨B, 0, none⟩), u16, u17, u18, u19, u20, u21, u22, u23, u24, u25, u26, u27, u28, u29, u30, u31, u32, u33, u34, u35, u36, u37, u38, u39, u40, u41, u42, u43, u44, u45, u46, u47, u48, u49, u50, u51, u52, u53, u54, u55, u56, u57, u58, u59, u60, u61, u62, u63, u64, u65, u66, u67, u68, u69, u70, u71, u72, u73, u74, u75, u76, u77, u78, u79, u80, u81, u82, u83, u84, u85, u86, u87, u88, u89, u90, u91, u92, u93, u94, u95, u96, u97, u98, u99, u100, u101, u102, u103, u104, u105, u106, u107, u108, u109, u110, u111, u112, u113, u114, u115, u116, u117, u118, u119, u120, u121, u122, u123, u124, u125, u126, u127, u128, u129, u130, u131, u132, u133, u134, u135, u136, u137, u138, u139, u140, u141, u142, u143, u144, u145, u146, u147, u148, u149, u150, u151, u152, u153, u154, u155, u156, u157, u158, u159, u160, u161, u162, u163, u164, u165, u166, u167, u168, u169, u170, u171, u172, u173, u174, u175, u176, u177, u178, u179, u180, u181, u182, u183, u184, u185, u186, u187, u188, u189, u190, u191, u192, u193, u194, u195, u196, u197, u198, u199, u200, u201, u202, u203, u204, u205, u206], ds⟩ W) :
    Code.wpIn Fence.wide 10 Tryf.prog pg4Body (Exit.then KK Q) ⟨#[u0, u1, u2, .pointer (some ⟨H, 0, none⟩), u4, u5, u6, .pointer (some ⟨H + 4, 0, none⟩), u8, u9, u10, u11, .pointer (some ⟨K, 0, none⟩), .pointer (some ⟨K + 2, 0, none⟩), .pointer (some ⟨K + 3, 0, none⟩), .pointer (some ⟨B, 0, none⟩), u16, u17, u18, u19, u20, u21, u22, u23, u24, u25, u26, u27, u28, u29, u30, u31, u32, u33, u34, u35, u36, u37, u38, u39, u40, u41, u42, u43, u44, u45, u46, u47, u48, u49, u50, u51, u52, u53, u54, u55, u56, u57, u58, u59, u60, u61, u62, u63, u64, u65, u66, u67, u68, u69, u70, u71, u72, u73, u74, u75, u76, u77, u78, u79, u80, u81, u82, u83, u84, u85, u86, u87, u88, u89, u90, u91, u92, u93, u94, u95, u96, u97, u98, u99, u100, u101, u102, u103, u104, u105, u106, u107, u108, u109, u110, u111, u112, u113, u114, u115, u116, u117, u118, u119, u120, u121, u122, u123, u124, u125, u126, u127, u128, u129, u130, u131, u132, u133, u134, u135, u136, u137, u138, u139, u140, u141, u142, u143, u144, u145, u146, u147, u148, u149, u150, u151, u152, u153, u154, u155, u156, u157, u158, u159, u160, u161, u162, u163, u164, u165, u166, u167, u168, u169, u170, u171, u172, u173, u174, u175, u176, u177, u178, u179, u180, u181, u182, u183, u184, u185, u186, u187, u188, u189, u190, u191, u192, u193, u194, u195, u196, u197, u198, u199, u200, u201, u202, u203, u204, u205, u206], ds⟩ W := by
  have c3 := r.ps.low.n3.cell (i := 0) (by omega)
  have c15 := r.b15.cell (i := 0) (by omega)
  have han := r.an
  have haz : ¬ ((a : Int) + 1 ≤ (n : Int)) := by omega
  conv => arg 4; whnf
  gi_wp2_with fail
  obtain rfl : a = n := by omega
  exact hexit _ _ _ _ _ _ _ _ _ _ _ _ _ _ _ _ _ _ _ _ _ _ _ _ _ _ _ _ _ _ _ _ _ _ _ _ _ _ _ _ _ _ _ _ _ _ _ _ _ _ _ _ _ _ _ _ _ _ _ _ _ _ _ _ _ _ _ _ _ _ _ _ _ _ _ _ _ _ _ _ _ _ _ _ _ _ _ _ _ _ _ _ _ _ _ _ _ _ _ _ _ _ _ _ _ _ _ _ _ _ _ _ _ _ _ _ _ _ _ _ _ _ _ _ _ _ _ _ _ _ _ _ _ _ _ _ _ _ _ _ _ _ _ _ _ _ _ _ _ _ _ _ _ _ _ _ _ _ _ _ _ _ _ _ _ _ _ _ _ _ _ _ _ _ _ _ _ _ _ _ _ _ _ _ _ _ _ _ _ _ _ _ _ _ _ _ _ _ _ _ _ _ _ _ _ _ _ r

set_option maxHeartbeats 4000000 in
set_option maxRecDepth 1000000 in
theorem pg4_loop (w0 : World) (H K n m h : Nat) (G : Nat → Nat → Bool) (hH : H = w0.heap.size) (hK : H + 5 + n ≤ K) (hm : m ≤ 16) (hn : n ≤ 1024) (hnm : n ≤ 64 * m) (hh : 0 < h ∧ h ≤ 1024) (ht : TabAt w0) (hG : Gr G n)
    (a : Nat) (Cf : Nat → Int) (fl : List (Nat × Nat)) (fv : Value) (B : Nat) (ds : List Deferred) (W : World) (r : R4 w0 H K n m h G a Cf fl fv B ds W) (u0 u1 u2 u4 u5 u6 u8 u9 u10 u11 u16 u17 u18 u19 u20 u21 u22 u23 u24 u25 u26 u27 u28 u29 u30 u31 u32 u33 u34 u35 u36 u37 u38 u39 u40 u41 u42 u43 u44 u45 u46 u47 u48 u49 u50 u51 u52 u53 u54 u55 u56 u57 u58 u59 u60 u61 u62 u63 u64 u65 u66 u67 u68 u69 u70 u71 u72 u73 u74 u75 u76 u77 u78 u79 u80 u81 u82 u83 u84 u85 u86 u87 u88 u89 u90 u91 u92 u93 u94 u95 u96 u97 u98 u99 u100 u101 u102 u103 u104 u105 u106 u107 u108 u109 u110 u111 u112 u113 u114 u115 u116 u117 u118 u119 u120 u121 u122 u123 u124 u125 u126 u127 u128 u129 u130 u131 u132 u133 u134 u135 u136 u137 u138 u139 u140 u141 u142 u143 u144 u145 u146 u147 u148 u149 u150 u151 u152 u153 u154 u155 u156 u157 u158 u159 u160 u161 u162 u163 u164 u165 u166 u167 u168 u169 u170 u171 u172 u173 u174 u175 u176 u177 u178 u179 u180 u181 u182 u183 u184 u185 u186 u187 u188 u189 u190 u191 u192 u193 u194 u195 u196 u197 u198 u199 u200 u201 u202 u203 u204 u205 u206 : Value) (Q : Exit → Act → World → Prop)
    (hexit : ∀ (u0 u1 u2 u4 u5 u6 u8 u9 u10 u11 u16 u17 u18 u19 u20 u21 u22 u23 u24 u25 u26 u27 u28 u29 u30 u31 u32 u33 u34 u35 u36 u37 u38 u39 u40 u41 u42 u43 u44 u45 u46 u47 u48 u49 u50 u51 u52 u53 u54 u55 u56 u57 u58 u59 u60 u61 u62 u63 u64 u65 u66 u67 u68 u69 u70 u71 u72 u73 u74 u75 u76 u77 u78 u79 u80 u81 u82 u83 u84 u85 u86 u87 u88 u89 u90 u91 u92 u93 u94 u95 u96 u97 u98 u99 u100 u101 u102 u103 u104 u105 u106 u107 u108 u109 u110 u111 u112 u113 u114 u115 u116 u117 u118 u119 u120 u121 u122 u123 u124 u125 u126 u127 u128 u129 u130 u131 u132 u133 u134 u135 u136 u137 u138 u139 u140 u141 u142 u143 u144 u145 u146 u147 u148 u149 u150 u151 u152 u153 u154 u155 u156 u157 u158 u159 u160 u161 u162 u163 u164 u165 u166 u167 u168 u169 u170 u171 u172 u173 u174 u175 u176 u177 u178 u179 u180 u181 u182 u183 u184 u185 u186 u187 u188 u189 u190 u191 u192 u193 u194 u195 u196 u197 u198 u199 u200 u201 u202 u203 u204 u205 u206 : Value) (Cf : Nat → Int) (fl : List (Nat × Nat)) (fv : Value) (B : Nat) (ds : List Deferred) (W : World), R4 w0 H K n m h G n Cf fl fv B ds W → Q (.exit 6) ⟨#[u0, u1, u2, .pointer (some ⟨H, 0, none⟩), u4, u5, u6, .pointer (some ⟨H + 4, 0, none⟩), u8, u9, u10, u11, .pointer (some ⟨K, 0, none⟩), .pointer (some ⟨K + 2, 0, none⟩), .pointer (some ⟨K + 3, 0, none⟩), .pointer (some ⟨B, 0, none⟩), u16, u17, u18, u19, u20, u21, u22, u23, u24, u25, u26, u27, u28, u29, u30, u31, u32, u33, u34, u35, u36, u37, u38, u39, u40, u41, u42, u43, u44, u45, u46, u47, u48, u49, u50, u51, u52, u53, u54, u55, u56, u57, u58, u59, u60, u61, u62, u63, u64, u65, u66, u67, u68, u69, u70, u71, u72, u73, u74, u75, u76, u77, u78, u79, u80, u81, u82, u83, u84, u85, u86, u87, u88, u89, u90, u91, u92, u93, u94, u95, u96, u97, u98, u99, u100, u101, u102, u103, u104, u105, u106, u107, u108, u109, u110, u111, u112, u113, u114, u115, u116, u117, u118, u119, u120, u121, u122, u123, u124, u125, u126, u127, u128, u129, u130, u131, u132, u133, u134, u135, u136, u137, u138, u139, u140, u141, u142, u143, u144, u145, u146, u147, u148, u149, u150, u151, u152, u153, u154, u155, u156, u157, u158, u159, u160, u161, u162, u163, u164, u165, u166, u167, u168, u169, u170, u171, u172, u173, u174, u175, u176, u177, u178, u179, u180, u181, u182, u183, u184, u185, u186, u187, u188, u189, u190, u191, u192, u193, u194, u195, u196, u197, u198, u199, u200, u201, u202, u203, u204, u205, u206], ds⟩ W) :
    Code.wpIn Fence.wide 10 Tryf.prog (Code.loop pg4Body) Q ⟨#[u0, u1, u2, .pointer (some ⟨H, 0, none⟩), u4, u5, u6, .pointer (some ⟨H + 4, 0, none⟩), u8, u9, u10, u11, .pointer (some ⟨K, 0, none⟩), .pointer (some ⟨K + 2, 0, none⟩), .pointer (some ⟨K + 3, 0, none⟩), .pointer (some ⟨B, 0, none⟩), u16, u17, u18, u19, u20, u21, u22, u23, u24, u25, u26, u27, u28, u29, u30, u31, u32, u33, u34, u35, u36, u37, u38, u39, u40, u41, u42, u43, u44, u45, u46, u47, u48, u49, u50, u51, u52, u53, u54, u55, u56, u57, u58, u59, u60, u61, u62, u63, u64, u65, u66, u67, u68, u69, u70, u71, u72, u73, u74, u75, u76, u77, u78, u79, u80, u81, u82, u83, u84, u85, u86, u87, u88, u89, u90, u91, u92, u93, u94, u95, u96, u97, u98, u99, u100, u101, u102, u103, u104, u105, u106, u107, u108, u109, u110, u111, u112, u113, u114, u115, u116, u117, u118, u119, u120, u121, u122, u123, u124, u125, u126, u127, u128, u129, u130, u131, u132, u133, u134, u135, u136, u137, u138, u139, u140, u141, u142, u143, u144, u145, u146, u147, u148, u149, u150, u151, u152, u153, u154, u155, u156, u157, u158, u159, u160, u161, u162, u163, u164, u165, u166, u167, u168, u169, u170, u171, u172, u173, u174, u175, u176, u177, u178, u179, u180, u181, u182, u183, u184, u185, u186, u187, u188, u189, u190, u191, u192, u193, u194, u195, u196, u197, u198, u199, u200, u201, u202, u203, u204, u205, u206], ds⟩ W := by
  refine wpIn_loop_ghost (I4 w0 H K n m h G) (n - a) ?_ ?_
  · unfold I4
    exact ⟨u0, u1, u2, u4, u5, u6, u8, u9, u10, u11, u16, u17, u18, u19, u20, u21, u22, u23, u24, u25, u26, u27, u28, u29, u30, u31, u32, u33, u34, u35, u36, u37, u38, u39, u40, u41, u42, u43, u44, u45, u46, u47, u48, u49, u50, u51, u52, u53, u54, u55, u56, u57, u58, u59, u60, u61, u62, u63, u64, u65, u66, u67, u68, u69, u70, u71, u72, u73, u74, u75, u76, u77, u78, u79, u80, u81, u82, u83, u84, u85, u86, u87, u88, u89, u90, u91, u92, u93, u94, u95, u96, u97, u98, u99, u100, u101, u102, u103, u104, u105, u106, u107, u108, u109, u110, u111, u112, u113, u114, u115, u116, u117, u118, u119, u120, u121, u122, u123, u124, u125, u126, u127, u128, u129, u130, u131, u132, u133, u134, u135, u136, u137, u138, u139, u140, u141, u142, u143, u144, u145, u146, u147, u148, u149, u150, u151, u152, u153, u154, u155, u156, u157, u158, u159, u160, u161, u162, u163, u164, u165, u166, u167, u168, u169, u170, u171, u172, u173, u174, u175, u176, u177, u178, u179, u180, u181, u182, u183, u184, u185, u186, u187, u188, u189, u190, u191, u192, u193, u194, u195, u196, u197, u198, u199, u200, u201, u202, u203, u204, u205, u206, a, Cf, fl, fv, B, ds, rfl, r, rfl⟩
  · clear r
    intro k ac W hI
    unfold I4 at hI
    obtain ⟨u0, hI⟩ := hI
    obtain ⟨u1, hI⟩ := hI
    obtain ⟨u2, hI⟩ := hI
    obtain ⟨u4, hI⟩ := hI
    obtain ⟨u5, hI⟩ := hI
    obtain ⟨u6, hI⟩ := hI
    obtain ⟨u8, hI⟩ := hI
    obtain ⟨u9, hI⟩ := hI
    obtain ⟨u10, hI⟩ := hI
    obtain ⟨u11, hI⟩ := hI
    obtain ⟨u16, hI⟩ := hI
    obtain ⟨u17, hI⟩ := hI
    obtain ⟨u18, hI⟩ := hI
    obtain ⟨u19, hI⟩ := hI
    obtain ⟨u20, hI⟩ := hI
    obtain ⟨u21, hI⟩ := hI
    obtain ⟨u22, hI⟩ := hI
    obtain ⟨u23, hI⟩ := hI
    obtain ⟨u24, hI⟩ := hI
    obtain ⟨u25, hI⟩ := hI
    obtain ⟨u26, hI⟩ := hI
    obtain ⟨u27, hI⟩ := hI
    obtain ⟨u28, hI⟩ := hI
    obtain ⟨u29, hI⟩ := hI
    obtain ⟨u30, hI⟩ := hI
    obtain ⟨u31, hI⟩ := hI
    obtain ⟨u32, hI⟩ := hI
    obtain ⟨u33, hI⟩ := hI
    obtain ⟨u34, hI⟩ := hI
    obtain ⟨u35, hI⟩ := hI
    obtain ⟨u36, hI⟩ := hI
    obtain ⟨u37, hI⟩ := hI
    obtain ⟨u38, hI⟩ := hI
    obtain ⟨u39, hI⟩ := hI
    obtain ⟨u40, hI⟩ := hI
    obtain ⟨u41, hI⟩ := hI
    obtain ⟨u42, hI⟩ := hI
    obtain ⟨u43, hI⟩ := hI
    obtain ⟨u44, hI⟩ := hI
    obtain ⟨u45, hI⟩ := hI
    obtain ⟨u46, hI⟩ := hI
    obtain ⟨u47, hI⟩ := hI
    obtain ⟨u48, hI⟩ := hI
    obtain ⟨u49, hI⟩ := hI
    obtain ⟨u50, hI⟩ := hI
    obtain ⟨u51, hI⟩ := hI
    obtain ⟨u52, hI⟩ := hI
    obtain ⟨u53, hI⟩ := hI
    obtain ⟨u54, hI⟩ := hI
    obtain ⟨u55, hI⟩ := hI
    obtain ⟨u56, hI⟩ := hI
    obtain ⟨u57, hI⟩ := hI
    obtain ⟨u58, hI⟩ := hI
    obtain ⟨u59, hI⟩ := hI
    obtain ⟨u60, hI⟩ := hI
    obtain ⟨u61, hI⟩ := hI
    obtain ⟨u62, hI⟩ := hI
    obtain ⟨u63, hI⟩ := hI
    obtain ⟨u64, hI⟩ := hI
    obtain ⟨u65, hI⟩ := hI
    obtain ⟨u66, hI⟩ := hI
    obtain ⟨u67, hI⟩ := hI
    obtain ⟨u68, hI⟩ := hI
    obtain ⟨u69, hI⟩ := hI
    obtain ⟨u70, hI⟩ := hI
    obtain ⟨u71, hI⟩ := hI
    obtain ⟨u72, hI⟩ := hI
    obtain ⟨u73, hI⟩ := hI
    obtain ⟨u74, hI⟩ := hI
    obtain ⟨u75, hI⟩ := hI
    obtain ⟨u76, hI⟩ := hI
    obtain ⟨u77, hI⟩ := hI
    obtain ⟨u78, hI⟩ := hI
    obtain ⟨u79, hI⟩ := hI
    obtain ⟨u80, hI⟩ := hI
    obtain ⟨u81, hI⟩ := hI
    obtain ⟨u82, hI⟩ := hI
    obtain ⟨u83, hI⟩ := hI
    obtain ⟨u84, hI⟩ := hI
    obtain ⟨u85, hI⟩ := hI
    obtain ⟨u86, hI⟩ := hI
    obtain ⟨u87, hI⟩ := hI
    obtain ⟨u88, hI⟩ := hI
    obtain ⟨u89, hI⟩ := hI
    obtain ⟨u90, hI⟩ := hI
    obtain ⟨u91, hI⟩ := hI
    obtain ⟨u92, hI⟩ := hI
    obtain ⟨u93, hI⟩ := hI
    obtain ⟨u94, hI⟩ := hI
    obtain ⟨u95, hI⟩ := hI
    obtain ⟨u96, hI⟩ := hI
    obtain ⟨u97, hI⟩ := hI
    obtain ⟨u98, hI⟩ := hI
    obtain ⟨u99, hI⟩ := hI
    obtain ⟨u100, hI⟩ := hI
    obtain ⟨u101, hI⟩ := hI
    obtain ⟨u102, hI⟩ := hI
    obtain ⟨u103, hI⟩ := hI
    obtain ⟨u104, hI⟩ := hI
    obtain ⟨u105, hI⟩ := hI
    obtain ⟨u106, hI⟩ := hI
    obtain ⟨u107, hI⟩ := hI
    obtain ⟨u108, hI⟩ := hI
    obtain ⟨u109, hI⟩ := hI
    obtain ⟨u110, hI⟩ := hI
    obtain ⟨u111, hI⟩ := hI
    obtain ⟨u112, hI⟩ := hI
    obtain ⟨u113, hI⟩ := hI
    obtain ⟨u114, hI⟩ := hI
    obtain ⟨u115, hI⟩ := hI
    obtain ⟨u116, hI⟩ := hI
    obtain ⟨u117, hI⟩ := hI
    obtain ⟨u118, hI⟩ := hI
    obtain ⟨u119, hI⟩ := hI
    obtain ⟨u120, hI⟩ := hI
    obtain ⟨u121, hI⟩ := hI
    obtain ⟨u122, hI⟩ := hI
    obtain ⟨u123, hI⟩ := hI
    obtain ⟨u124, hI⟩ := hI
    obtain ⟨u125, hI⟩ := hI
    obtain ⟨u126, hI⟩ := hI
    obtain ⟨u127, hI⟩ := hI
    obtain ⟨u128, hI⟩ := hI
    obtain ⟨u129, hI⟩ := hI
    obtain ⟨u130, hI⟩ := hI
    obtain ⟨u131, hI⟩ := hI
    obtain ⟨u132, hI⟩ := hI
    obtain ⟨u133, hI⟩ := hI
    obtain ⟨u134, hI⟩ := hI
    obtain ⟨u135, hI⟩ := hI
    obtain ⟨u136, hI⟩ := hI
    obtain ⟨u137, hI⟩ := hI
    obtain ⟨u138, hI⟩ := hI
    obtain ⟨u139, hI⟩ := hI
    obtain ⟨u140, hI⟩ := hI
    obtain ⟨u141, hI⟩ := hI
    obtain ⟨u142, hI⟩ := hI
    obtain ⟨u143, hI⟩ := hI
    obtain ⟨u144, hI⟩ := hI
    obtain ⟨u145, hI⟩ := hI
    obtain ⟨u146, hI⟩ := hI
    obtain ⟨u147, hI⟩ := hI
    obtain ⟨u148, hI⟩ := hI
    obtain ⟨u149, hI⟩ := hI
    obtain ⟨u150, hI⟩ := hI
    obtain ⟨u151, hI⟩ := hI
    obtain ⟨u152, hI⟩ := hI
    obtain ⟨u153, hI⟩ := hI
    obtain ⟨u154, hI⟩ := hI
    obtain ⟨u155, hI⟩ := hI
    obtain ⟨u156, hI⟩ := hI
    obtain ⟨u157, hI⟩ := hI
    obtain ⟨u158, hI⟩ := hI
    obtain ⟨u159, hI⟩ := hI
    obtain ⟨u160, hI⟩ := hI
    obtain ⟨u161, hI⟩ := hI
    obtain ⟨u162, hI⟩ := hI
    obtain ⟨u163, hI⟩ := hI
    obtain ⟨u164, hI⟩ := hI
    obtain ⟨u165, hI⟩ := hI
    obtain ⟨u166, hI⟩ := hI
    obtain ⟨u167, hI⟩ := hI
    obtain ⟨u168, hI⟩ := hI
    obtain ⟨u169, hI⟩ := hI
    obtain ⟨u170, hI⟩ := hI
    obtain ⟨u171, hI⟩ := hI
    obtain ⟨u172, hI⟩ := hI
    obtain ⟨u173, hI⟩ := hI
    obtain ⟨u174, hI⟩ := hI
    obtain ⟨u175, hI⟩ := hI
    obtain ⟨u176, hI⟩ := hI
    obtain ⟨u177, hI⟩ := hI
    obtain ⟨u178, hI⟩ := hI
    obtain ⟨u179, hI⟩ := hI
    obtain ⟨u180, hI⟩ := hI
    obtain ⟨u181, hI⟩ := hI
    obtain ⟨u182, hI⟩ := hI
    obtain ⟨u183, hI⟩ := hI
    obtain ⟨u184, hI⟩ := hI
    obtain ⟨u185, hI⟩ := hI
    obtain ⟨u186, hI⟩ := hI
    obtain ⟨u187, hI⟩ := hI
    obtain ⟨u188, hI⟩ := hI
    obtain ⟨u189, hI⟩ := hI
    obtain ⟨u190, hI⟩ := hI
    obtain ⟨u191, hI⟩ := hI
    obtain ⟨u192, hI⟩ := hI
    obtain ⟨u193, hI⟩ := hI
    obtain ⟨u194, hI⟩ := hI
    obtain ⟨u195, hI⟩ := hI
    obtain ⟨u196, hI⟩ := hI
    obtain ⟨u197, hI⟩ := hI
    obtain ⟨u198, hI⟩ := hI
    obtain ⟨u199, hI⟩ := hI
    obtain ⟨u200, hI⟩ := hI
    obtain ⟨u201, hI⟩ := hI
    obtain ⟨u202, hI⟩ := hI
    obtain ⟨u203, hI⟩ := hI
    obtain ⟨u204, hI⟩ := hI
    obtain ⟨u205, hI⟩ := hI
    obtain ⟨u206, hI⟩ := hI
    obtain ⟨a, hI⟩ := hI
    obtain ⟨Cf, hI⟩ := hI
    obtain ⟨fl, hI⟩ := hI
    obtain ⟨fv, hI⟩ := hI
    obtain ⟨B, hI⟩ := hI
    obtain ⟨ds, rfl, r, rfl⟩ := hI
    by_cases ha : a < n
    · exact pg4_round w0 H K n m h G hH hK hm hn hnm hh ht hG a ha Cf fl fv B ds W r u0 u1 u2 u4 u5 u6 u8 u9 u10 u11 u16 u17 u18 u19 u20 u21 u22 u23 u24 u25 u26 u27 u28 u29 u30 u31 u32 u33 u34 u35 u36 u37 u38 u39 u40 u41 u42 u43 u44 u45 u46 u47 u48 u49 u50 u51 u52 u53 u54 u55 u56 u57 u58 u59 u60 u61 u62 u63 u64 u65 u66 u67 u68 u69 u70 u71 u72 u73 u74 u75 u76 u77 u78 u79 u80 u81 u82 u83 u84 u85 u86 u87 u88 u89 u90 u91 u92 u93 u94 u95 u96 u97 u98 u99 u100 u101 u102 u103 u104 u105 u106 u107 u108 u109 u110 u111 u112 u113 u114 u115 u116 u117 u118 u119 u120 u121 u122 u123 u124 u125 u126 u127 u128 u129 u130 u131 u132 u133 u134 u135 u136 u137 u138 u139 u140 u141 u142 u143 u144 u145 u146 u147 u148 u149 u150 u151 u152 u153 u154 u155 u156 u157 u158 u159 u160 u161 u162 u163 u164 u165 u166 u167 u168 u169 u170 u171 u172 u173 u174 u175 u176 u177 u178 u179 u180 u181 u182 u183 u184 u185 u186 u187 u188 u189 u190 u191 u192 u193 u194 u195 u196 u197 u198 u199 u200 u201 u202 u203 u204 u205 u206 Q
    · exact pg4_out w0 H K n m h G a (by omega) hn Cf fl fv B ds W r u0 u1 u2 u4 u5 u6 u8 u9 u10 u11 u16 u17 u18 u19 u20 u21 u22 u23 u24 u25 u26 u27 u28 u29 u30 u31 u32 u33 u34 u35 u36 u37 u38 u39 u40 u41 u42 u43 u44 u45 u46 u47 u48 u49 u50 u51 u52 u53 u54 u55 u56 u57 u58 u59 u60 u61 u62 u63 u64 u65 u66 u67 u68 u69 u70 u71 u72 u73 u74 u75 u76 u77 u78 u79 u80 u81 u82 u83 u84 u85 u86 u87 u88 u89 u90 u91 u92 u93 u94 u95 u96 u97 u98 u99 u100 u101 u102 u103 u104 u105 u106 u107 u108 u109 u110 u111 u112 u113 u114 u115 u116 u117 u118 u119 u120 u121 u122 u123 u124 u125 u126 u127 u128 u129 u130 u131 u132 u133 u134 u135 u136 u137 u138 u139 u140 u141 u142 u143 u144 u145 u146 u147 u148 u149 u150 u151 u152 u153 u154 u155 u156 u157 u158 u159 u160 u161 u162 u163 u164 u165 u166 u167 u168 u169 u170 u171 u172 u173 u174 u175 u176 u177 u178 u179 u180 u181 u182 u183 u184 u185 u186 u187 u188 u189 u190 u191 u192 u193 u194 u195 u196 u197 u198 u199 u200 u201 u202 u203 u204 u205 u206 Q _ hexit

end Go.Proofs.Qxb6615834aFmt
