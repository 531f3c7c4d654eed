/-
  pruneGraph: the statement that appends to the pruned pairs. MADE BY wip/tools/genpg35.py.
-/
import Derived.Test.Qxb6615834aFmtPg4
import Derived.Test.Qxb6615834aFmtPf5
import Derived.Deep.AppendLies
import Derived.Deep.RegionLaw
import Derived.Deep.RegionHeld3
namespace Go.Proofs.Qxb6615834aFmt
open Go.RowKit Go.Deep Go.Shelf

theorem Hold.of {p : Prop} (h : p) : Hold p := h

/-- The regions of a number. -/
def regsOf (k : Nat) : Code → List Code
  | .region i o b => if i = k then [.region i o b] else []
  | .loop c => regsOf k c
  | .seq a b => regsOf k a ++ regsOf k b
  | .block _ c => regsOf k c
  | .scope c => regsOf k c
  | .cond _ a b => regsOf k a ++ regsOf k b
  | _ => []

noncomputable def reg35 : Code := (((Tryf.f23.body.map (regsOf 35)).getD [])[0]?).getD .skip

set_option maxHeartbeats 8000000 in
set_option maxRecDepth 1000000 in
theorem pg35 (w0 : World) (H K n m h : Nat) (N : Nat → Nat → Bool) (Cf : Nat → Int) (pv fv : Value) (pr fl : List (Nat × Nat)) (B S1 x y a b : Nat) (ds : List Deferred) (V4 : World) (hK : H + 5 + n ≤ K) (hprN : pr.length ≤ 1048576)
    (s4 : PS w0 H K n m h N Cf pv fv pr fl V4) (x4 : X5 H K B S1 x y a b ds V4) (ap1 : Ap5 B S1 x y pv) (u0 u1 u2 u3 u4 u5 u6 u8 u9 u10 u11 u12 u13 u14 u15 u16 u17 u19 u20 u21 u22 u23 u24 u25 u26 u27 u28 u29 u30 u31 u32 u33 u34 u35 u36 u37 u38 u39 u40 u41 u42 u43 u44 u45 u46 u47 u48 u49 u50 u51 u52 u53 u54 u55 u56 u57 u58 u59 u60 u61 u62 u63 u64 u65 u66 u67 u68 u69 u70 u71 u72 u73 u74 u75 u76 u77 u78 u79 u80 u81 u82 u83 u84 u85 u86 u87 u88 u89 u90 u91 u92 u93 u94 u95 u96 u97 u98 u99 u100 u101 u102 u103 u104 u105 u106 u107 u108 u109 u110 u111 u112 u113 u114 u115 u116 u117 u118 u119 u120 u121 u122 u123 u124 u125 u126 u127 u128 u129 u130 u131 u132 u133 u134 u135 u136 u137 u138 u139 u140 u141 u142 u143 u144 u145 u146 u147 u148 u149 u150 u151 u152 u153 u154 u155 u156 u157 u158 u159 u160 u161 u162 u163 u164 u165 u166 u167 u168 u169 u170 u171 u172 u173 u174 u175 u176 u177 u178 u179 u180 u181 u182 u183 u184 u185 u186 u187 u188 u189 u190 u191 u192 u193 u194 u195 u196 u197 u198 u199 u200 u201 u202 u203 u204 u205 u206 : Value) :
    Code.wp Tryf.prog reg35 (fun e ac V => e = .normal ∧ ∃ v164 v165 v166 v167 v168 v169 v170 v171 v172 v173 : Value, ∃ g' cap' : Nat, ac = ⟨#[u0, u1, u2, u3, u4, u5, u6, .pointer (some ⟨H + 4, 0, none⟩), u8, u9, u10, u11, u12, u13, u14, u15, u16, u17, .pointer (some ⟨S1, 0, none⟩), u19, u20, u21, u22, u23, u24, u25, u26, u27, u28, u29, u30, u31, u32, u33, u34, u35, u36, u37, u38, u39, u40, u41, u42, u43, u44, u45, u46, u47, u48, u49, u50, u51, u52, u53, u54, u55, u56, u57, u58, u59, u60, u61, u62, u63, u64, u65, u66, u67, u68, u69, u70, u71, u72, u73, u74, u75, u76, u77, u78, u79, u80, u81, u82, u83, u84, u85, u86, u87, u88, u89, u90, u91, u92, u93, u94, u95, u96, u97, u98, u99, u100, u101, u102, u103, u104, u105, u106, u107, u108, u109, u110, u111, u112, u113, u114, u115, u116, u117, u118, u119, u120, u121, u122, u123, u124, u125, u126, u127, u128, u129, u130, u131, u132, u133, u134, u135, u136, u137, u138, u139, u140, u141, u142, u143, u144, u145, u146, u147, u148, u149, u150, u151, u152, u153, u154, u155, u156, u157, u158, u159, u160, u161, u162, u163, v164, v165, v166, v167, v168, v169, v170, v171, v172, v173, u174, u175, u176, u177, u178, u179, u180, u181, u182, u183, u184, u185, u186, u187, u188, u189, u190, u191, u192, u193, u194, u195, u196, u197, u198, u199, u200, u201, u202, u203, u204, u205, u206], ds⟩ ∧ PS w0 H K n m h N Cf (.slice (some ⟨g', 0, none⟩) (pr.length + 1) cap') fv (pr ++ [(a, b)]) fl V ∧ X5 H K B S1 x y a b ds V ∧ Ap5 B S1 x y (.slice (some ⟨g', 0, none⟩) (pr.length + 1) cap')) ⟨#[u0, u1, u2, u3, u4, u5, u6, .pointer (some ⟨H + 4, 0, none⟩), u8, u9, u10, u11, u12, u13, u14, u15, u16, u17, .pointer (some ⟨S1, 0, none⟩), u19, u20, u21, u22, u23, u24, u25, u26, u27, u28, u29, u30, u31, u32, u33, u34, u35, u36, u37, u38, u39, u40, u41, u42, u43, u44, u45, u46, u47, u48, u49, u50, u51, u52, u53, u54, u55, u56, u57, u58, u59, u60, u61, u62, u63, u64, u65, u66, u67, u68, u69, u70, u71, u72, u73, u74, u75, u76, u77, u78, u79, u80, u81, u82, u83, u84, u85, u86, u87, u88, u89, u90, u91, u92, u93, u94, u95, u96, u97, u98, u99, u100, u101, u102, u103, u104, u105, u106, u107, u108, u109, u110, u111, u112, u113, u114, u115, u116, u117, u118, u119, u120, u121, u122, u123, u124, u125, u126, u127, u128, u129, u130, u131, u132, u133, u134, u135, u136, u137, u138, u139, u140, u141, u142, u143, u144, u145, u146, u147, u148, u149, u150, u151, u152, u153, u154, u155, u156, u157, u158, u159, u160, u161, u162, u163, u164, u165, u166, u167, u168, u169, u170, u171, u172, u173, u174, u175, u176, u177, u178, u179, u180, u181, u182, u183, u184, u185, u186, u187, u188, u189, u190, u191, u192, u193, u194, u195, u196, u197, u198, u199, u200, u201, u202, u203, u204, u205, u206], ds⟩ V4 := by
  obtain ⟨i0, hi, hz0, hz1, hz2⟩ := info_parts Tryf.info43
  obtain ⟨Z4, hZ4⟩ : ∃ Z4, V4.heap.size = Z4 := ⟨_, rfl⟩
  have TA : Turns (fun _ => False) V4 (V4.drew.alloc (.cells #[.int .i64 ((a : Int) + 1), .int .i64 ((b : Int) + 1)] 43)) := ((Turns.refl _ V4).drew).alloc _
  have sA := s4.still hK TA
  have xA := x4.still TA
  have zA : (V4.drew.alloc (.cells #[.int .i64 ((a : Int) + 1), .int .i64 ((b : Int) + 1)] 43)).heap.size = Z4 + 1 := by simp [hZ4]
  have news : ∀ (j : Nat) (u : Value), [Value.int .i64 ((a : Int) + 1), .int .i64 ((b : Int) + 1)][j]? = some u → (V4.drew.alloc (.cells #[.int .i64 ((a : Int) + 1), .int .i64 ((b : Int) + 1)] 43)).cell? ((⟨Z4, 0, none⟩ : Addr).add j) = some u := by
    rw [← hZ4]
    exact cell_two_new V4.drew _ _ _
  generalize hA : V4.drew.alloc (.cells #[.int .i64 ((a : Int) + 1), .int .i64 ((b : Int) + 1)] 43) = A4 at TA sA xA zA news
  have hszA := sA.size
  have y7 := s4.g7.cell (i := 0) (by omega)
  have yp := s4.gG.pr
  have y0 := x4.e18.cell (i := 0) (by omega)
  have y1 := x4.e18.cell (i := 1) (by omega)
  have q7 := sA.g7.cell (i := 0) (by omega)
  have qp := sA.gG.pr
  have q0 := xA.e18.cell (i := 0) (by omega)
  have q1 := xA.e18.cell (i := 1) (by omega)
  simp only [Nat.one_ne_zero, if_true, if_false] at y0 y1 q0 q1
  have hsA := Hold.of sA
  have hxA := Hold.of xA
  have hap := Hold.of ap1
  have hnews := Hold.of news
  have hm : pr.length + 1 ≤ maxLen := by unfold maxLen; omega
  have hb : (pr.length + 1) * 16 ≤ 140737488355328 := by omega
  have hh : H + 2 ≤ A4.heap.size := by omega
  replace hm := Hold.of hm
  replace hb := Hold.of hb
  replace hh := Hold.of hh
  replace hi := Hold.of hi
  replace hz0 := Hold.of hz0
  replace hz1 := Hold.of hz1
  replace hz2 := Hold.of hz2
  replace hK := Hold.of hK
  clear s4 x4 sA xA ap1 news TA hszA hprN
  generalize hQ2 : (fun (e : Exit) (ac : Act) (V : World) => e = .normal ∧ ∃ v164 v165 v166 v167 v168 v169 v170 v171 v172 v173 : Value, ∃ g' cap' : Nat, ac = ⟨#[u0, u1, u2, u3, u4, u5, u6, .pointer (some ⟨H + 4, 0, none⟩), u8, u9, u10, u11, u12, u13, u14, u15, u16, u17, .pointer (some ⟨S1, 0, none⟩), u19, u20, u21, u22, u23, u24, u25, u26, u27, u28, u29, u30, u31, u32, u33, u34, u35, u36, u37, u38, u39, u40, u41, u42, u43, u44, u45, u46, u47, u48, u49, u50, u51, u52, u53, u54, u55, u56, u57, u58, u59, u60, u61, u62, u63, u64, u65, u66, u67, u68, u69, u70, u71, u72, u73, u74, u75, u76, u77, u78, u79, u80, u81, u82, u83, u84, u85, u86, u87, u88, u89, u90, u91, u92, u93, u94, u95, u96, u97, u98, u99, u100, u101, u102, u103, u104, u105, u106, u107, u108, u109, u110, u111, u112, u113, u114, u115, u116, u117, u118, u119, u120, u121, u122, u123, u124, u125, u126, u127, u128, u129, u130, u131, u132, u133, u134, u135, u136, u137, u138, u139, u140, u141, u142, u143, u144, u145, u146, u147, u148, u149, u150, u151, u152, u153, u154, u155, u156, u157, u158, u159, u160, u161, u162, u163, v164, v165, v166, v167, v168, v169, v170, v171, v172, v173, u174, u175, u176, u177, u178, u179, u180, u181, u182, u183, u184, u185, u186, u187, u188, u189, u190, u191, u192, u193, u194, u195, u196, u197, u198, u199, u200, u201, u202, u203, u204, u205, u206], ds⟩ ∧ PS w0 H K n m h N Cf (.slice (some ⟨g', 0, none⟩) (pr.length + 1) cap') fv (pr ++ [(a, b)]) fl V ∧ X5 H K B S1 x y a b ds V ∧ Ap5 B S1 x y (.slice (some ⟨g', 0, none⟩) (pr.length + 1) cap')) = Q2
  replace hQ2 := Hold.of hQ2
  conv => arg 2; whnf
  refine wp_region_noPanic ?_
  dsimp only
  go_region_law (first | (refine step_append_lies _ rfl _ _ 27 rfl (H + 2) 43 i0 (.agg #[.int .i64 0, .int .i64 0]) 2 16 Tryf.underlying27 hi hz0 hz1 hz2 rfl (by decide) pv pr.length (pairCells pr) rfl (PS.own hsA) ⟨Z4, 0, none⟩ 1 1 [.int .i64 ((a : Int) + 1), .int .i64 ((b : Int) + 1)] rfl rfl hnews (by simp [Value.oneCell']) (by decide) hm hb hh A4.heap.size rfl ?_; intro g' cap' w1 hown hgrow hat hlt; have TB : Turns (fun j => pv.ownBlock = some j) A4 w1 := (Turns.refl _ A4).grown hgrow (fun k e => e); obtain ⟨hfin, k7, kG, k18⟩ := PS.pushed hsA hxA hap hK TB hown hat (Nat.le_refl _); have kf := World.rowIs.frozen kG 1; have kc := GAt.pr kG; have k7c := k7.cell (i := 0) (by omega); replace hfin := Hold.of hfin; clear k7 kG k18 TB hown hgrow hat hlt))
  all_goals refine NoPanic.normal ?_
  all_goals unfold Hold at hQ2 hfin
  all_goals rw [← hQ2]
  all_goals exact ⟨rfl, _, _, _, _, _, _, _, _, _, _, g', cap', rfl, hfin⟩

end Go.Proofs.Qxb6615834aFmt
