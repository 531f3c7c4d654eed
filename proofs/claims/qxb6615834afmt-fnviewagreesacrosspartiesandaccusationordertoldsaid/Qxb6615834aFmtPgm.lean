/-
  pruneGraph: the walk. MADE BY wip/tools/genpgm.py.
-/
import Derived.Test.Qxb6615834aFmtPg5
import Derived.Test.Qxb6615834aFmtPg2
import Derived.Deep.RegionHeld3
namespace Go.Proofs.Qxb6615834aFmt
open Go.RowKit Go.Deep Go.Shelf
attribute [local go_sem] wide_fn4
attribute [local simp] wide_fn4

theorem run_store_func (P : Program) (w : World) (a : Addr) (m : Mode) (fn : Fn) (x y : Array Value) : (store a (.func fn x y) m).run P w = stored P w a (.func fn x y) m := run_store P w a _ m rfl
attribute [local go_sem] run_store_func

theorem Tryf.info57 : (Tryf.prog.info? 57).map (fun i => (i.zero, i.size, i.bytes)) = some (some (.slice none 0 0), 1, 24) := by kernel_rfl
theorem Tryf.info21 : (Tryf.prog.info? 21).map (fun i => (i.zero, i.size, i.bytes)) = some (some (.int .i32 0), 1, 4) := by kernel_rfl

theorem KC.cell {W W' : World} (hk : KC W W') {a : Addr} {v : Value} (h : W.cell? a = some v) : W'.cell? a = some v := by
  unfold World.cell? at *
  cases e : W.heap[a.block]? with
  | none => rw [e] at h; cases h
  | some o =>
    rw [e] at h
    cases o with
    | cells c t f =>
      rw [hk a.block _ e rfl]
      exact h
    | _ => cases h

/-- What pruneGraph leaves. -/
structure Pruned (w : World) (n m h : Nat) (G : Nat → Nat → Bool) (N : Nat → Nat → Bool) (pr : List (Nat × Nat)) (g cap : Nat) (w' : World) : Prop where
  core : Core N G n h
  prIff : ∀ x y, x < y → y < n → ((x, y) ∈ pr ↔ G x y = true ∧ N x y = false)
  prOk : ∀ p ∈ pr, p.1 < p.2 ∧ p.2 < n
  prNodup : pr.Nodup
  prLen : pr.length ≤ n * n
  graph : GAt w' (w.heap.size + 3) (w.heap.size + 1) n (.slice (some ⟨g, 0, none⟩) pr.length cap)
  nb : NbAt w' (w.heap.size + 1) n m (fun p => w.heap.size + 5 + p) N
  pairs : PairsAt w' g (sortP pr)
  hg : w.heap.size ≤ g ∧ g < w'.heap.size
  below : Below w.heap.size w w'

set_option maxHeartbeats 4000000 in
set_option maxRecDepth 1000000 in
theorem prune_any (n t : Nat) (A : Option Addr) (bA c : Nat) (acc : List (Nat × Nat)) (w : World) (hn : n ≤ 1024) (hn0 : 0 < n) (htn : t < n) (m : Nat) (hnm : (n + 63) / 64 = m) (ht : TabAt w) (hA : 0 < acc.length → A = some ⟨bA, 0, none⟩) (hp : PairsAt w bA acc) (hacc : ∀ p ∈ acc, p.1 < n ∧ p.2 < n ∧ p.1 ≠ p.2) (hlen : acc.length ≤ 1048576) :
    Calls Tryf.prog 23 #[.int .i64 (n : Int), .int .i64 (t : Int), .slice A acc.length c] w fun e w' => ∃ N pr g cap, e = .returned (.pointer (some ⟨w.heap.size + 3, 0, none⟩)) ∧ Pruned w n m (n - t) (cutL (fullN n) acc) N pr g cap w' := by
  refine (callsIn_wide (n := 10)).1 ?_
  refine callsIn_of_wp_marks Tryf.func23 rfl trivial ?_
  simp only [Tryf.ntmps23, List.size_toArray, List.length_cons, List.length_nil, Nat.reduceAdd, Nat.reduceSub, Array.replicate_succ, Array.replicate_zero, List.push_toArray, List.append_toArray, List.nil_append, List.cons_append]
  refine wpIn_wide.2 ?_
  have hmk := run_make_row' (P := Tryf.prog) 60 57 (.slice none 0 0) 24 Tryf.underlying60 Tryf.info57 rfl .i64 .i64 n (by omega) (by omega)
  have hnn : n * n ≤ 1048576 := Nat.mul_le_mul hn hn
  have hm16 : m ≤ 16 := by omega
  have hnm2 : n ≤ 64 * m := by omega
  obtain ⟨H, hH⟩ : ∃ H, w.heap.size = H := ⟨_, rfl⟩
  go_wp2_with fail
  go_loopg [8] n (fun g x wr => ∃ j : Nat, j ≤ n ∧ g = n - j ∧ x = .int .i64 ((j : Int) + 1) ∧ PgMk w H n m j wr)
  case atStart => exact ⟨0, Nat.zero_le _, rfl, rfl, PgMk.begin m hH _ rfl⟩
  case round =>
    obtain ⟨j, hj, rfl, rfl, h⟩ := hrel
    have c3 := h.n3.cell (i := 0) (by omega)
    by_cases hjn : j < n
    · have hz : (j : Int) + 1 ≤ (n : Int) := by omega
      have hz2 : (j : Int) < (n : Int) := by omega
      have hw1 : wrap64 (j : Int) = (j : Int) := by unfold wrap64; omega
      have hw2 : IntKind.i64.wrap (j : Int) = (j : Int) := by rw [IntKind.wrap_i64]; omega
      have hw3 : (0 : Int) ≤ (j : Int) := by omega
      have c7 := h.g7.cell (i := 0) (by omega)
      have cG := h.gG.nb
      have cN := h.top.cell hjn
      have fN := h.top.frozen j
      have k1 := newPartySet_any n m hn hnm wr.drew
      have T : Turns (fun _ => False) wr (madeSet wr.drew m) := ((Turns.refl _ wr).drew).alloc _
      have d3 := (T.row h.n3 (fun e => e)).cell (i := 0) (by omega)
      have d7 := (T.row h.g7 (fun e => e)).cell (i := 0) (by omega)
      have dG := GAt.nb (w := madeSet wr.drew m) (T.row h.gG (fun e => e))
      have dN := (T.row h.top (fun e => e)).cell hjn
      have eN := (T.row h.top (fun e => e)).frozen j
      have hin := h.made
      go_wp2_with fail
      refine wp_region_noPanic ?_
      go_region_with (go_at_call 31; refine k1.mono ?_; rintro e w' ⟨rfl, rfl⟩)
      all_goals generalize (madeSet wr.drew m).setCell ⟨H + 1, j, none⟩ (.slice (some ⟨wr.heap.size, 0, none⟩) m m) = V at hin ⊢
      all_goals refine NoPanic.normal ?_
      all_goals clear k1 T d3 d7 dG dN eN cN fN cG c7 c3 h hmk
      all_goals (
        go_wp2_with fail
        go_loopg [9] n (fun g x W => ∃ i : Nat, i ≤ n ∧ g = n - i ∧ x = .int .i64 ((i : Int) + 1) ∧ PgIn w H n m j i W)
        case atStart => exact ⟨0, Nat.zero_le _, rfl, rfl, hin⟩
        case round =>
          clear hin
          obtain ⟨i, hi, rfl, rfl, hin⟩ := hrel
          have c3 := hin.n3.cell (i := 0) (by omega)
          by_cases hil : i < n
          · have hiz : (i : Int) + 1 ≤ (n : Int) := by omega
            have c7 := hin.g7.cell (i := 0) (by omega)
            have cG := hin.gG.nb
            have cN := hin.top.cell hjn
            have hlt : j < j + 1 := by omega
            rw [if_pos hlt] at cN
            have k2 := add_any (H + 5 + j) m i (fun y => decide (y < i)) (by omega) hm16 wr hin.row
            have hnx := hin.add
            go_wp2_with (go_at_call 32; refine k2.mono ?_; rintro e w' ⟨rfl, rfl⟩)
            go_roundg (n - (i + 1))
            case measure => omega
            case rel => exact ⟨i + 1, by omega, rfl, by go_num, hnx⟩
          · have hiz : ¬ ((i : Int) + 1 ≤ (n : Int)) := by omega
            have hfull : PgMk w H n m (j + 1) wr := by
              have : i = n := by omega
              subst this
              exact hin.full
            clear hin
            go_wp2_with fail
            go_roundg (n - (j + 1))
            case measure => omega
            case rel => exact ⟨j + 1, by omega, rfl, by go_num, hfull⟩)
    · have hz : ¬ ((j : Int) + 1 ≤ (n : Int)) := by omega
      obtain rfl : j = n := by omega
      have hd := h.done
      have hsz := h.size
      clear h hmk
      go_wp2_with fail
      have hacc' : ∀ i, i < acc.length → (acc[i]?.getD (0, 0)).1 < j ∧ (acc[i]?.getD (0, 0)).2 < j ∧ (acc[i]?.getD (0, 0)).1 ≠ (acc[i]?.getD (0, 0)).2 := fun i hi => by
        have := hacc (acc[i]) (List.getElem_mem hi)
        simpa [hi] using this
      have hbA : ∀ i, i < acc.length → bA < H := fun i hi => by rw [← hH]; exact block_lt_of_cell (hp i hi).1
      go_loopg [58] acc.length (fun g x wr => ∃ i : Nat, i ≤ acc.length ∧ g = acc.length - i ∧ x = .int .i64 (i : Int) ∧ PgAt w H j m (cutL (fullN j) (acc.take i)) wr ∧ wr.heap.size = H + 5 + j + i)
      case atStart => exact ⟨0, Nat.zero_le _, rfl, rfl, hd, by omega⟩
      case round =>
        clear hd hsz
        obtain ⟨i, hi, rfl, rfl, hd, hsz⟩ := hrel
        by_cases hil : i < acc.length
        · have hiz : (i : Int) < (acc.length : Int) := by omega
          obtain rfl := hA (by omega)
          obtain ⟨a1, a2, a3⟩ := hacc' i hil
          obtain ⟨d1, d2⟩ := hp i hil
          have hbl := hbA i hil
          have c1 := (hd.below.cell (p := ⟨bA, i * 2, none⟩) hbl).trans d1
          have c2 := (hd.below.cell (p := ⟨bA, i * 2 + 1, none⟩) hbl).trans d2
          have htk : acc.take (i + 1) = acc.take i ++ [acc[i]?.getD (0, 0)] := by
            rw [List.take_add_one]
            simp [hil]
          generalize (acc[i]?.getD (0, 0)) = p at a1 a2 a3 d1 d2 c1 c2 htk
          obtain ⟨p1, p2⟩ := p
          simp only at a1 a2 a3 c1 c2
          have T1 : Turns (fun _ => False) wr (wr.alloc (.cells #[.int .i64 ((p1 : Int) + 1), .int .i64 ((p2 : Int) + 1)] 52)) := (Turns.refl _ wr).alloc _
          have e1 := hd.still T1 (by omega)
          have e2 := e1.cut (x := p1) (y := p2) (by have := T1.size; omega) a1 a2
          have k1 := cut_any (H + 3) (H + 1) j m p1 p2 (fun p => H + 5 + p) _ hnm2 hm16 a1 a2 _ e1.nb _ e1.gG (fun p hp => by omega)
          have z1 : (wr.alloc (.cells #[.int .i64 ((p1 : Int) + 1), .int .i64 ((p2 : Int) + 1)] 52)).heap.size = H + 5 + j + i + 1 := by simp [hsz]
          have y0 : (wr.alloc (.cells #[.int .i64 ((p1 : Int) + 1), .int .i64 ((p2 : Int) + 1)] 52)).cell? ⟨H + 5 + j + i, 0, none⟩ = some (.int .i64 ((p1 : Int) + 1)) := by rw [← hsz]; simp
          have y1 : (wr.alloc (.cells #[.int .i64 ((p1 : Int) + 1), .int .i64 ((p2 : Int) + 1)] 52)).cell? ⟨H + 5 + j + i, 1, none⟩ = some (.int .i64 ((p2 : Int) + 1)) := by rw [← hsz]; simp
          generalize hV1 : wr.alloc (.cells #[.int .i64 ((p1 : Int) + 1), .int .i64 ((p2 : Int) + 1)] 52) = V1 at T1 e1 e2 k1 z1 y0 y1
          have y7 := e1.g7.cell (i := 0) (by omega)
          have z2 : (cutW V1 (fun p => H + 5 + p) (cutL (fullN j) (acc.take i)) p1 p2).heap.size = H + 5 + j + (i + 1) := by rw [cutW_size, z1]; omega
          have e2' : PgAt w H j m (cutL (fullN j) (acc.take (i + 1))) (cutW V1 (fun p => H + 5 + p) (cutL (fullN j) (acc.take i)) p1 p2) := by
            rw [htk, cutL_snoc]
            exact e2
          go_wp2_with (go_at_call 33; refine k1.mono ?_; rintro e w' ⟨rfl, rfl⟩)
          go_roundg (acc.length - (i + 1))
          case measure => omega
          case rel => exact ⟨i + 1, by omega, rfl, by go_num, e2', z2⟩
        · have hiz : ¬ ((i : Int) < (acc.length : Int)) := by omega
          obtain rfl : i = acc.length := by omega
          rw [List.take_length] at hd
          clear hp hacc' hbA hA
          have hmk := run_make_row' (P := Tryf.prog) 71 21 (.int .i32 0) 4 Tryf.underlying71 Tryf.info21 rfl .i64 .i64 (j * j) (by omega) (by omega)
          have c3 := hd.n3.cell (i := 0) (by omega)
          obtain ⟨K, hKK⟩ : ∃ K, H + 5 + j + acc.length = K := ⟨_, rfl⟩
          rw [hKK] at hsz
          have hK5 : H + 5 + j ≤ K := by omega
          obtain ⟨h, hh⟩ : ∃ h, j - t = h := ⟨_, rfl⟩
          have hjt : (j : Int) - (t : Int) = (h : Int) := by omega
          have hh2 : 0 < h ∧ h ≤ 1024 := by omega
          obtain ⟨nn, hnn3⟩ : ∃ nn, j * j = nn := ⟨_, rfl⟩
          have hnn2 : (j : Int) * (j : Int) = (nn : Int) := by rw [← hnn3]; simp
          rw [hnn3] at hmk hnn
          have T1 : Turns (fun _ => False) wr (wr.alloc (.cells #[.int .i64 (h : Int)] 3)) := (Turns.refl _ wr).alloc _
          have q1 := rowIs_box wr (.int .i64 (h : Int)) 3
          rw [hsz] at q1
          have z1 : (wr.alloc (.cells #[.int .i64 (h : Int)] 3)).heap.size = K + 1 := by simp [hsz]
          generalize hX1 : wr.alloc (.cells #[.int .i64 (h : Int)] 3) = X1 at T1 q1 z1
          have d3 := (T1.row hd.n3 (fun e => e)).cell (i := 0) (by omega)
          have T2 : Turns (fun _ => False) X1 (X1.alloc (.cells (madeCells #[.int .i32 0] nn) 21)) := (Turns.refl _ X1).alloc _
          have q2 := World.rowIs_made X1 (.int .i32 0) nn 21
          rw [z1] at q2
          have z2 : (X1.alloc (.cells (madeCells #[.int .i32 0] nn) 21)).heap.size = K + 1 + 1 := by simp [z1]
          generalize hX2 : X1.alloc (.cells (madeCells #[.int .i32 0] nn) 21) = X2 at T2 q2 z2
          have T3 : Turns (fun _ => False) X2 (X2.alloc (.cells #[.slice (some ⟨K + 1, 0, none⟩) nn nn] 71)) := (Turns.refl _ X2).alloc _
          have q3 := rowIs_box X2 (.slice (some ⟨K + 1, 0, none⟩) nn nn) 71
          rw [z2] at q3
          have z3 : (X2.alloc (.cells #[.slice (some ⟨K + 1, 0, none⟩) nn nn] 71)).heap.size = K + 1 + 1 + 1 := by simp [z2]
          generalize hX3 : X2.alloc (.cells #[.slice (some ⟨K + 1, 0, none⟩) nn nn] 71) = X3 at T3 q3 z3
          have T4 : Turns (fun _ => False) X3 (X3.alloc (.cells #[.slice none 0 0] 27)) := (Turns.refl _ X3).alloc _
          have q4 := rowIs_box X3 (.slice none 0 0) 27
          rw [z3] at q4
          have z4 : (X3.alloc (.cells #[.slice none 0 0] 27)).heap.size = K + 1 + 1 + 1 + 1 := by simp [z3]
          generalize hX4 : X3.alloc (.cells #[.slice none 0 0] 27) = X4 at T4 q4 z4
          have T5 : Turns (fun _ => False) X4 (X4.alloc (.cells #[.int .i64 1] 3)) := (Turns.refl _ X4).alloc _
          have q5 := rowIs_box X4 (.int .i64 1) 3
          rw [z4] at q5
          have z5 : (X4.alloc (.cells #[.int .i64 1] 3)).heap.size = K + 1 + 1 + 1 + 1 + 1 := by simp [z4]
          generalize hX5 : X4.alloc (.cells #[.int .i64 1] 3) = X5 at T5 q5 z5
          go_wp2_with fail
          refine (wpIn_wide (n := 10)).1 ?_
          have hd5 : PgAt w H j m (cutL (fullN j) acc) X5 := hd.still ((((T1.trans T2).trans T3).trans T4).trans T5) (by omega)
          have hps : PS w H K j m h (cutL (fullN j) acc) (fun _ => 0) (noPr H) (.slice none 0 0) [] [] X5 := by
            refine hd5.ps ((((T2.trans T3).trans T4).trans T5).row q1 (fun e => e)) ?_ ?_ (T5.row q4 (fun e => e)) (by omega)
            · rw [hnn3]
              exact ((T3.trans T4).trans T5).row q2 (fun e => e)
            · rw [hnn3]
              exact (T4.trans T5).row q3 (fun e => e)
          have hG : Gr (cutL (fullN j) acc) j := cutL_gr acc _ (fun p hp => (hacc p hp).2.2) (fullN_gr j)
          have hr4 : R4 w H K j m h (cutL (fullN j) acc) 0 (fun _ => 0) [] (.slice none 0 0) (K + 4) [] X5 :=
            ⟨Ini.start _ _ _ _, by simp, hps, q5.congr fun i _ => by simp, Nat.le_refl _, by simp [Value.ownBlock], Nat.zero_le _, [], rfl, List.nodup_nil, fun _ h => by cases h⟩
          clear hd hd5 hps q1 q2 q3 q4 q5 T1 T2 T3 T4 T5 d3 c3 hX1 hX2 hX3 hX4 hX5 hmk hjt hnn2
          refine pg4_loop w H K j m h (cutL (fullN j) acc) hH.symm hK5 hm16 hn hnm2 hh2 ht hG 0 (fun _ => 0) [] (.slice none 0 0) (K + 4) [] X5 hr4 _ _ _ _ _ _ _ _ _ _ _ _ _ _ _ _ _ _ _ _ _ _ _ _ _ _ _ _ _ _ _ _ _ _ _ _ _ _ _ _ _ _ _ _ _ _ _ _ _ _ _ _ _ _ _ _ _ _ _ _ _ _ _ _ _ _ _ _ _ _ _ _ _ _ _ _ _ _ _ _ _ _ _ _ _ _ _ _ _ _ _ _ _ _ _ _ _ _ _ _ _ _ _ _ _ _ _ _ _ _ _ _ _ _ _ _ _ _ _ _ _ _ _ _ _ _ _ _ _ _ _ _ _ _ _ _ _ _ _ _ _ _ _ _ _ _ _ _ _ _ _ _ _ _ _ _ _ _ _ _ _ _ _ _ _ _ _ _ _ _ _ _ _ _ _ _ _ _ _ _ _ _ _ _ _ _ _ _ _ _ _ _ _ _ _ _ _ _ _ _ _ _ ?_
          clear hr4
          intro u0 u1 u2 u4 u5 u6 u8 u9 u10 u11 u16 u17 u18 u19 u20 u21 u22 u23 u24 u25 u26 u27 u28 u29 u30 u31 u32 u33 u34 u35 u36 u37 u38 u39 u40 u41 u42 u43 u44 u45 u46 u47 u48 u49 u50 u51 u52 u53 u54 u55 u56 u57 u58 u59 u60 u61 u62 u63 u64 u65 u66 u67 u68 u69 u70 u71 u72 u73 u74 u75 u76 u77 u78 u79 u80 u81 u82 u83 u84 u85 u86 u87 u88 u89 u90 u91 u92 u93 u94 u95 u96 u97 u98 u99 u100 u101 u102 u103 u104 u105 u106 u107 u108 u109 u110 u111 u112 u113 u114 u115 u116 u117 u118 u119 u120 u121 u122 u123 u124 u125 u126 u127 u128 u129 u130 u131 u132 u133 u134 u135 u136 u137 u138 u139 u140 u141 u142 u143 u144 u145 u146 u147 u148 u149 u150 u151 u152 u153 u154 u155 u156 u157 u158 u159 u160 u161 u162 u163 u164 u165 u166 u167 u168 u169 u170 u171 u172 u173 u174 u175 u176 u177 u178 u179 u180 u181 u182 u183 u184 u185 u186 u187 u188 u189 u190 u191 u192 u193 u194 u195 u196 u197 u198 u199 u200 u201 u202 u203 u204 u205 u206 Cf fl fv B ds W hr4
          have p4 := hr4.ps
          have hsz4 := p4.size
          obtain ⟨B17, hB17⟩ : ∃ B17, W.heap.size = B17 := ⟨_, rfl⟩
          have T5 : Turns (fun _ => False) W (W.alloc (.cells #[.nilFunc] 70)) := (Turns.refl _ W).alloc _
          have q5 := rowIs_box W .nilFunc 70
          rw [hB17] at q5
          have p5 := p4.still hK5 T5
          have m5 := hr4.marks.turns T5
          generalize hX0 : W.alloc (.cells #[.nilFunc] 70) = X0 at T5 q5 p5 m5
          have c17 := q5.cell (i := 0) (by omega)
          have f17 := q5.frozen 0
          have T6 : Turns (fun j => j = B17) X0 (X0.setCell ⟨B17, 0, none⟩ (lowV H K)) := (Turns.refl (fun j => j = B17) X0).setCell (a := ⟨B17, 0, none⟩) rfl _
          have q6 : (X0.setCell ⟨B17, 0, none⟩ (lowV H K)).rowIs B17 70 1 (fun _ => lowV H K) := (q5.set 0 (lowV H K)).congr fun i hi => by
            have : i = 0 := by omega
            simp [this]
          have hfb : fv.ownBlock ≠ some B17 := fun e => by have := (p4.low.ff.lt _ e).2; omega
          have hpb : (noPr H).ownBlock ≠ some B17 := fun e => by
            have : H + 2 = B17 := by simpa [noPr, Value.ownBlock] using e
            omega
          have p6 := p5.turns hK5 T6 (fun k e => by subst e; exact ⟨by omega, hpb, hfb⟩)
          have m6 : Marks (X0.setCell ⟨B17, 0, none⟩ (lowV H K)) H ds := m5.others (fun k o hk ho => by
            refine (T6.block k (Array.getElem?_eq_some_iff.1 hk).1 (fun e => ?_)).trans hk
            subst e
            obtain ⟨c, hc, _⟩ := q5
            rw [hc] at hk
            cases hk
            cases ho)
          have hr5 : R5 w H K j m h (cutL (fullN j) acc) (cutL (fullN j) acc) Cf (noPr H) fv [] fl B17 ds (X0.setCell ⟨B17, 0, none⟩ (lowV H K)) := by
            refine ⟨hr4.ini.ends (Nat.le_refl _) hG, ?_, p6, q6, by omega, hfb, hpb, ⟨H + 2, 0, rfl⟩, m6⟩
            have := edges_lt (cutL (fullN j) acc) hn0
            simp
            omega
          unfold lowV at hr5
          generalize hX6 : X0.setCell ⟨B17, 0, none⟩ (.func (.func 36) #[] #[.pointer (some ⟨K + 2, 0, none⟩), .pointer (some ⟨H, 0, none⟩), .pointer (some ⟨K, 0, none⟩), .pointer (some ⟨K + 3, 0, none⟩)]) = X6 at hr5
          clear p4 T5 T6 q5 q6 p5 p6 m5 m6 hr4 hfb hpb
          dsimp only
          go_wp2_with fail
          refine (wpIn_wide (n := 10)).1 ?_
          clear c17 f17 hX0 hX6
          refine pg5_loop w H K j m h (cutL (fullN j) acc) (cutL (fullN j) acc) hH.symm hK5 hm16 hn hnm2 hh2 ht Cf (noPr H) fv [] fl B17 ds X6 hr5 _ _ _ _ _ _ _ _ _ _ _ _ _ _ _ _ _ _ _ _ _ _ _ _ _ _ _ _ _ _ _ _ _ _ _ _ _ _ _ _ _ _ _ _ _ _ _ _ _ _ _ _ _ _ _ _ _ _ _ _ _ _ _ _ _ _ _ _ _ _ _ _ _ _ _ _ _ _ _ _ _ _ _ _ _ _ _ _ _ _ _ _ _ _ _ _ _ _ _ _ _ _ _ _ _ _ _ _ _ _ _ _ _ _ _ _ _ _ _ _ _ _ _ _ _ _ _ _ _ _ _ _ _ _ _ _ _ _ _ _ _ _ _ _ _ _ _ _ _ _ _ _ _ _ _ _ _ _ _ _ _ _ _ _ _ _ _ _ _ _ _ _ _ _ _ _ _ _ _ _ _ _ _ _ _ _ _ _ _ _ _ _ _ _ _ _ _ _ _ _ _ _ ?_
          clear hr5
          intro v0 v1 v2 v4 v5 v6 v8 v9 v10 v11 v15 v16 v18 v19 v20 v21 v22 v23 v24 v25 v26 v27 v28 v29 v30 v31 v32 v33 v34 v35 v36 v37 v38 v39 v40 v41 v42 v43 v44 v45 v46 v47 v48 v49 v50 v51 v52 v53 v54 v55 v56 v57 v58 v59 v60 v61 v62 v63 v64 v65 v66 v67 v68 v69 v70 v71 v72 v73 v74 v75 v76 v77 v78 v79 v80 v81 v82 v83 v84 v85 v86 v87 v88 v89 v90 v91 v92 v93 v94 v95 v96 v97 v98 v99 v100 v101 v102 v103 v104 v105 v106 v107 v108 v109 v110 v111 v112 v113 v114 v115 v116 v117 v118 v119 v120 v121 v122 v123 v124 v125 v126 v127 v128 v129 v130 v131 v132 v133 v134 v135 v136 v137 v138 v139 v140 v141 v142 v143 v144 v145 v146 v147 v148 v149 v150 v151 v152 v153 v154 v155 v156 v157 v158 v159 v160 v161 v162 v163 v164 v165 v166 v167 v168 v169 v170 v171 v172 v173 v174 v175 v176 v177 v178 v179 v180 v181 v182 v183 v184 v185 v186 v187 v188 v189 v190 v191 v192 v193 v194 v195 v196 v197 v198 v199 v200 v201 v202 v203 v204 v205 v206 N Cf pv fv pr B ds W hr5
          obtain ⟨g, cap, rfl⟩ := hr5.pS
          have c7 := hr5.ps.g7.cell (i := 0) (by omega)
          have cp := hr5.ps.gG.pr
          have hprn : pr.length ≤ 1048576 := by have := hr5.few; omega
          have hsrt := sort_any (H + 2) g cap pr W hr5.ps.own (by omega)
          dsimp only
          go_wp2_with (go_at_call 38; refine hsrt.mono ?_; rintro e w' ⟨rfl, hpa, hTu⟩; have d7 := (hTu.row hr5.ps.g7 (by have := hr5.ps.pvB g rfl; have := hr5.ps.own.lt g rfl; omega)).cell (i := 0) (by omega))
          have hg2 := hr5.ps.pvB g rfl
          have hg3 := hr5.ps.own.lt g rfl
          have mk : Marks w' H ds := hr5.marks.others (fun k o hk ho => by
            refine (hTu.block k (Array.getElem?_eq_some_iff.1 hk).1 (fun e => ?_)).trans hk
            subst e
            obtain ⟨o', ho', hc'⟩ := hr5.ps.pv_cells k (Or.inr rfl)
            rw [hk] at ho'
            cases ho'
            rw [ho] at hc'
            cases hc')
          obtain ⟨Ds, rfl, hnd, hDs⟩ := mk
          refine leaves_marks Ds w' hnd hDs (fun W' hb hc => ?_)
          refine ⟨_, results_tmp rfl _ _ _, N, pr, g, cap, by rw [hH]; rfl, ?_⟩
          rw [hh]
          have hB1 : Below H w w' := hr5.ps.below.trans (hTu.below (fun k _ e => by omega) (by have := hr5.ps.size; omega))
          have hk : KC w' W' := hc
          refine ⟨hr5.inv.ends, hr5.inv.prIff, hr5.inv.prOk, hr5.inv.prNodup, by have := hr5.few; omega, ?_, ?_, ?_, ?_, ?_⟩
          · rw [hH]
            exact hk.row (hTu.row hr5.ps.gG (by omega))
          · rw [hH]
            exact hk.nb (hr5.ps.nb.of_blocks (hTu.block _ hr5.ps.nb.top.lt (by omega)) (fun p hp => hTu.block _ (World.rowIs.lt (hr5.ps.nb.rows p hp)) (by omega)))
          · intro i hi
            exact ⟨hk.cell (hpa i hi).1, hk.cell (hpa i hi).2⟩
          · rw [hH]
            have := hTu.size
            have := hb.size
            omega
          · rw [hH]
            exact hB1.trans hb

end Go.Proofs.Qxb6615834aFmt
