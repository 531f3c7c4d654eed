/-
  FnViewAgreesAcrossPartiesAndAccusationOrder: the walk where the input is good.
-/
import Derived.Test.Qxb6615834aFmtL5a
import Derived.Test.Qxb6615834aFmtPg35
import Derived.Test.Qxb6615834aFmtZz3
namespace Go.Proofs.Qxb6615834aFmt
open Go.RowKit Go.Deep Go.Extern.Stop Go.Stop Go.Extern
attribute [local go_sem] wide_fnV
attribute [local simp] wide_fnV

theorem IntsAt.up {w w' : World} {g : Nat} {xs : List Nat} (h : IntsAt w g xs) (hg : g < w.heap.size) (hB : Below w.heap.size w w') : IntsAt w' g xs := fun i hi => (hB.cell (p := ⟨g, i, none⟩) hg).trans (h i hi)
theorem IntsAt.heap {w w' : World} {g : Nat} {xs : List Nat} (h : IntsAt w g xs) (e : Kept (w'.heap = w.heap)) : IntsAt w' g xs := fun i hi => (World.cell?_of_block (a := ⟨g, i, none⟩) (by unfold Kept at e; rw [e])).trans (h i hi)
theorem PairsAt.up {w w' : World} {g : Nat} {l : List (Nat × Nat)} (h : PairsAt w g l) (hg : g < w.heap.size) (hB : Below w.heap.size w w') : PairsAt w' g l := fun i hi => ⟨(hB.cell (p := ⟨g, i * 2, none⟩) hg).trans (h i hi).1, (hB.cell (p := ⟨g, i * 2 + 1, none⟩) hg).trans (h i hi).2⟩
theorem PairsAt.heap {w w' : World} {g : Nat} {l : List (Nat × Nat)} (h : PairsAt w g l) (e : Kept (w'.heap = w.heap)) : PairsAt w' g l := fun i hi => ⟨(World.cell?_of_block (a := ⟨g, i * 2, none⟩) (by unfold Kept at e; rw [e])).trans (h i hi).1, (World.cell?_of_block (a := ⟨g, i * 2 + 1, none⟩) (by unfold Kept at e; rw [e])).trans (h i hi).2⟩
theorem hasB_upE {S : Nat → Bool} {n x : Nat} (hx : x < n) : hasB (upE S n) x = S x := by
  have h1 : hasB (upE S n) x = true ↔ S x = true := by
    unfold hasB upE
    rw [List.contains_iff_mem, List.mem_filter, List.mem_range]
    exact ⟨fun h => h.2, fun h => ⟨hx, h⟩⟩
  cases e1 : hasB (upE S n) x <;> cases e2 : S x
  · rfl
  · rw [e1, e2] at h1; simp at h1
  · rw [e1, e2] at h1; simp at h1
  · rfl

theorem same_reach5 {N N' G : Nat → Nat → Bool} {n h p : Nat} {S M : Nat → Bool} (a : Core N G n h) (b : Core N' G n h) (hp : p < n) (hS : ∀ x, S x = true ↔ x < n ∧ Reach N p x) (hM : ∀ x, M x = true ↔ x < n ∧ Reach N' p x) : M = S := by
  funext x
  have h1 : M x = true ↔ S x = true := by
    rw [hS, hM]
    exact ⟨fun h => ⟨h.1, (Reach.congr (fun x y hx hy => (a.unique b x y hx hy).symm) b.gr.lt hp h.2).1⟩, fun h => ⟨h.1, (Reach.congr (fun x y hx hy => a.unique b x y hx hy) a.gr.lt hp h.2).1⟩⟩
  cases hx : M x <;> cases hy : S x
  · rfl
  · rw [hx, hy] at h1; simp at h1
  · rw [hx, hy] at h1; simp at h1
  · rfl

/-- Two views' pruned pairs are the same. -/
theorem same_prs {N N' G : Nat → Nat → Bool} {n h : Nat} {pr pr' : List (Nat × Nat)} (a : Core N G n h) (b : Core N' G n h) (hpr : ∀ x y, x < y → y < n → ((x, y) ∈ pr ↔ G x y = true ∧ N x y = false)) (hok : ∀ p ∈ pr, p.1 < p.2 ∧ p.2 < n) (hnd : pr.Nodup)
    (hpr' : ∀ x y, x < y → y < n → ((x, y) ∈ pr' ↔ G x y = true ∧ N' x y = false)) (hok' : ∀ p ∈ pr', p.1 < p.2 ∧ p.2 < n) (hnd' : pr'.Nodup) : sortP pr' = sortP pr := by
  have h1 := sortP_lex (P := fun x y => G x y && !N x y) hnd hok (fun x y hxy hy => by rw [hpr x y hxy hy]; simp)
  have h2 := sortP_lex (P := fun x y => G x y && !N x y) hnd' hok' (fun x y hxy hy => by rw [hpr' x y hxy hy, a.unique b x y (by omega) hy]; simp)
  rw [h1, h2]

theorem see_both' {N N' G : Nat → Nat → Bool} {n h p q : Nat} {S T : Nat → Bool} (a : Core N G n h) (b : Core N' G n h) (hp : p < n) (hq : q < n) (hS : ∀ x, S x = true ↔ x < n ∧ Reach N p x) (hT : ∀ x, T x = true ↔ x < n ∧ Reach N' q x) : S q = T p ∧ (S q = true → S = T) := by
  refine see_both a.gr hp hq hS (fun x => ?_)
  rw [hT]
  exact ⟨fun h => ⟨h.1, (Reach.congr (fun x y hx hy => (a.unique b x y hx hy).symm) b.gr.lt hq h.2).1⟩, fun h => ⟨h.1, (Reach.congr (fun x y hx hy => a.unique b x y hx hy) a.gr.lt hq h.2).1⟩⟩

theorem IPAt.up {w w' : World} {b off : Nat} {l : List (Int × Int)} (h : IPAt w b off l) (hB : Below w.heap.size w w') : IPAt w' b off l := fun i hi => by
  obtain ⟨y1, y2⟩ := h i hi
  have hlt : b < w.heap.size := block_lt_of_cell y1
  exact ⟨(hB.cell (p := ⟨b, off + i * 2, none⟩) hlt).trans y1, (hB.cell (p := ⟨b, off + i * 2 + 1, none⟩) hlt).trans y2⟩
theorem AGAt.up {w w' : World} {bG : Nat} {n t s : Int} {v : Value} (h : AGAt w bG n t s v) (hB : Below w.heap.size w w') : AGAt w' bG n t s v := World.rowIs.of_block h (hB.block _ (World.rowIs.lt h))

theorem ipAt_of_row' {w : World} {b t : Nat} {l : List (Int × Int)} (h : w.rowIs b t (l.length * 2) (accC l l.length)) : IPAt w b 0 l := fun i hi => by
  have h1 := h.cell (i := i * 2) (by omega)
  have h2 := h.cell (i := i * 2 + 1) (by omega)
  have e1 : i * 2 < l.length * 2 := by omega
  have e2 : i * 2 + 1 < l.length * 2 := by omega
  have e3 : (i * 2 + 1) / 2 = i := by omega
  have e4 : (i * 2 + 1) % 2 = 1 := by omega
  have e5 : i * 2 / 2 = i := by omega
  have e6 : i * 2 % 2 = 0 := by omega
  rw [accC, if_pos e1, e5, e6, if_pos rfl] at h1
  rw [accC, if_pos e2, e3, e4, if_neg (by omega)] at h2
  rw [Nat.zero_add]
  exact ⟨h1, h2⟩

set_option maxRecDepth 1000000 in
set_option maxHeartbeats 8000000 in
theorem law5_good (F : Interp) (n t s p q m : Nat) (A : Option Addr) (b off c : Nat) (acc : List (Nat × Nat)) (w : World) (hF : F.answers w.tape) (ht : TabAt w) (hA : 0 < acc.length → A = some ⟨b, off, none⟩) (h : IPAt w b off (accI acc)) (hl : acc.length ≤ 65536)
    (hn : n ≤ 1024) (hn2 : 2 ≤ n) (htn : t < n) (hs : s < n) (hp : p < n) (hq : q < n) (hm : (n + 63) / 64 = m) (hacc : ∀ p ∈ acc, p.1 < n ∧ p.2 < n ∧ p.1 ≠ p.2) :
    Calls Tryf.prog 5 #[.int .i64 (n : Int), .int .i64 (t : Int), .int .i64 ((s : Int) + 1), .slice A acc.length c, .int .i64 ((p : Int) + 1), .int .i64 ((q : Int) + 1)] w fun e w' => e = .returned (.bool true) ∧ Below w.heap.size w w' := by
  have hlI : (accI acc).length = acc.length := accI_length acc
  have kB := zzBytes5_any n t ((s : Int) + 1) ((p : Int) + 1) ((q : Int) + 1) A acc.length c w (by omega)
  have hlz : ¬ ((65536 : Int) < (acc.length : Int)) := by omega
  have hok : allOk n (accI acc) := fun i hi => by
    rw [hlI] at hi
    rw [accI_get acc hi]
    have := hacc (acc[i]) (List.getElem_mem hi)
    have e : acc[i]?.getD (0, 0) = acc[i] := by simp [hi]
    rw [e]
    obtain ⟨h1, h2, h3⟩ := this
    refine ⟨?_, ?_, ?_, ?_, ?_⟩ <;> simp only <;> omega
  have hok2 : validB n (accI acc) = true := validB_true.2 hok
  have h0l : 0 < w.heap.size := by have := block_lt_of_cell (ht 0 (by omega)); simpa using this
  have hbl : ∀ i, i < acc.length → b < w.heap.size := fun i hi => block_lt_of_cell (h i (by rw [hlI]; exact hi)).1
  have hmx : Tryf.prog.follows .mixedOrders = true := by kernel_rfl
  have kV := valid_any n t ((s : Int) + 1) A b off c (accI acc) w ⟨by omega, by omega, by omega, by omega, by omega, by omega⟩ (by rw [hlI]; exact hA) h (by omega)
  rw [hlI, hok2] at kV
  clear hok2
  have hpz1 : ¬ ((p : Int) + 1 < 1) := by omega
  have hpz2 : ¬ ((n : Int) < (p : Int) + 1) := by omega
  have hqz1 : ¬ ((q : Int) + 1 < 1) := by omega
  have hqz2 : ¬ ((n : Int) < (q : Int) + 1) := by omega
  obtain ⟨i0, hi, hz0, hz1, hz2⟩ := info_parts Tryf.info43
  have hmk := run_make (P := Tryf.prog) w 27 43 i0 (.agg #[.int .i64 0, .int .i64 0]) Tryf.underlying27 hi hz0 .i64 .i64 acc.length acc.length (by omega) (by omega) (by rw [hz2]; omega) (by omega)
  simp only [Int.toNat_natCast, hz1] at hmk
  obtain ⟨H, hH⟩ : ∃ H, w.heap.size = H := ⟨_, rfl⟩
  go_enter Tryf.func5, Tryf.ntmps5
  go_wp2_with (first | (go_at_call 16; refine kB.mono ?_; rintro e w' ⟨rfl, hw⟩; rw [hw]; clear hw) | (go_at_call 11; refine kV.mono ?_; rintro e w' ⟨rfl, hw⟩; rw [hw]; clear hw))
  go_loopg [15] acc.length (fun g x wr => ∃ j : Nat, j ≤ acc.length ∧ g = acc.length - j ∧ x = .int .i64 (j : Int) ∧ Below H w wr ∧ wr.rowIs H 43 (acc.length * 2) (accC (accI (accF acc)) j) ∧ wr.heap.size = H + 1)
  case atStart =>
    refine ⟨0, Nat.zero_le _, rfl, rfl, (Below.refl H w).alloc (by omega) _, ?_, by simp [hH]⟩
    have := World.rowIs_alloc w (madeCells #[.int .i64 0, .int .i64 0] (acc.length * 2)) 43 (accC (accI (accF acc)) 0) (fun i hi => by
      simp only [size_madeCells] at hi
      have : i % 2 = 0 ∨ i % 2 = 1 := by omega
      rcases this with e | e <;> simp [madeCells, hi, accC, e])
    rw [size_madeCells, hH] at this
    exact this
  case round =>
    clear hmk kB kV
    obtain ⟨j, hj, rfl, rfl, hB, hr, hsz⟩ := hrel
    by_cases hjl : j < acc.length
    · have hz : (j : Int) < (acc.length : Int) := by omega
      obtain rfl := hA (by omega)
      obtain ⟨k, hk⟩ : ∃ k, acc.length - 1 - j = k := ⟨_, rfl⟩
      have hkl : k < acc.length := by omega
      have hki : (acc.length : Int) - 1 - (j : Int) = (k : Int) := by omega
      obtain ⟨d1, d2⟩ := h k (by rw [hlI]; exact hkl)
      rw [accI_get acc hkl] at d1 d2
      have hb1 := hbl k hkl
      rw [hH] at hb1
      have c1 := (hB.cell (p := ⟨b, off + k * 2, none⟩) hb1).trans d1
      have c2 := (hB.cell (p := ⟨b, off + k * 2 + 1, none⟩) hb1).trans d2
      have hkz : (k : Int) < (acc.length : Int) := by omega
      have hkz0 : (0 : Int) ≤ (k : Int) := by omega
      have hgf : (accI (accF acc))[j]?.getD (0, 0) = (((acc[k]?.getD (0, 0)).2 : Int) + 1, ((acc[k]?.getD (0, 0)).1 : Int) + 1) := by
        rw [accI_get _ (by rw [accF_length]; exact hjl), accF_get acc hjl, hk]
      have hs2 : ∀ V : World, V.rowIs H 43 (acc.length * 2) (accC (accI (accF acc)) j) → ((V.setCell ⟨H, j * 2, none⟩ (.int .i64 ((accI (accF acc))[j]?.getD (0, 0)).1)).setCell ⟨H, j * 2 + 1, none⟩ (.int .i64 ((accI (accF acc))[j]?.getD (0, 0)).2)).rowIs H 43 (acc.length * 2) (accC (accI (accF acc)) (j + 1)) := fun V hV => ((hV.set (j * 2) _).set (j * 2 + 1) _).congr (fun t _ => accC_succ)
      rw [hgf] at hs2
      generalize acc[k]?.getD (0, 0) = v at c1 c2 hs2 d1 d2 hgf
      obtain ⟨v1, v2⟩ := v
      simp only at c1 c2 hs2
      clear d1 d2 hgf
      replace hs2 := Kept.of hs2
      go_wp2_with fail
      refine (wpIn_wide (n := 10)).1 ?_
      refine wpIn_wide_tail 20 hmx (by kernel_rfl) ?_
      simp only [List.take_succ_cons, List.take_zero, List.drop_succ_cons, List.drop_zero]
      repeat (gi_big_quiet_step (fail))
      refine wpQuietIn_nil ?_
      rintro V ⟨nq, hV⟩
      have hBV : Below H w V := by rw [hV]; exact below_drewN hB nq
      have hrV : V.rowIs H 43 (acc.length * 2) (accC (accI (accF acc)) j) := by rw [hV]; exact hr
      have hsV : V.heap.size = H + 1 := by rw [hV]; exact hsz
      clear hV
      have e1 := hrV.cell (i := j * 2) (by omega)
      have e2 := hrV.cell (i := j * 2 + 1) (by omega)
      have f1 := hrV.frozen (j * 2)
      have f2 := hrV.frozen (j * 2 + 1)
      have hr' := hs2 V hrV
      have hB' := (hBV.setCell (p := ⟨H, j * 2, none⟩) (Nat.le_refl _) (.int .i64 ((v2 : Int) + 1))).setCell (p := ⟨H, j * 2 + 1, none⟩) (Nat.le_refl _) (.int .i64 ((v1 : Int) + 1))
      gi_wp2_with fail
      go_wp2_with fail
      go_roundg (acc.length - (j + 1))
      case measure => omega
      case rel => exact ⟨j + 1, by omega, rfl, by go_num, hB', hr', by simpa using hsV⟩
    · have hz : ¬ ((j : Int) < (acc.length : Int)) := by omega
      obtain rfl : j = acc.length := by omega
      have hlF : (accI (accF acc)).length = acc.length := by rw [accI_length, accF_length]
      have hipF : IPAt wr H 0 (accI (accF acc)) := by
        rw [← hlF] at hr
        exact ipAt_of_row' hr
      have hip0 : IPAt wr b off (accI acc) := fun i hi => by
        obtain ⟨y1, y2⟩ := h i hi
        have hlt := hbl i (by rw [← hlI]; exact hi)
        rw [hH] at hlt
        exact ⟨(hB.cell (p := ⟨b, off + i * 2, none⟩) hlt).trans y1, (hB.cell (p := ⟨b, off + i * 2 + 1, none⟩) hlt).trans y2⟩
      have hB0 : Below w.heap.size w wr := by rw [hH]; exact hB
      have hs0 : w.heap.size ≤ wr.heap.size := hB0.size
      clear hr hsz hB
      go_wp2_with fail
      have kT := toAcc_any A b off c (accI acc) wr hip0 (by rw [hlI]; exact hA) (by omega)
      rw [hlI] at kT
      refine kT.mono ?_
      rintro e w1 ⟨A1, c1, rfl, hA1, h1, hB1⟩
      clear kT
      obtain ⟨g2, hB2, h2⟩ := made_graph (n := n) (t := t) (s := (s : Int) + 1) (A' := A1) (k := acc.length) (c' := c1) hB1 h1 _ rfl
      generalize hX2 : w1.alloc (.cells #[.int .i64 (n : Int), .int .i64 (t : Int), .int .i64 ((s : Int) + 1), .slice A1 acc.length c1] 33) = X2 at g2 hB2 h2
      go_wp2_with fail
      have hipX : IPAt X2 H 0 (accI (accF acc)) := hipF.up hB2
      have kT := toAcc_any (some ⟨H, 0, none⟩) H 0 acc.length (accI (accF acc)) X2 hipX (fun _ => rfl) (by omega)
      rw [hlF] at kT
      refine kT.mono ?_
      rintro e w2 ⟨A2, c2, rfl, hA2, h3, hB3⟩
      clear kT hipX hipF hip0
      obtain ⟨g4, hB4, h4⟩ := made_graph (n := n) (t := t) (s := (s : Int) + 1) (A' := A2) (k := acc.length) (c' := c2) hB3 h3 _ rfl
      generalize hX3 : w2.alloc (.cells #[.int .i64 (n : Int), .int .i64 (t : Int), .int .i64 ((s : Int) + 1), .slice A2 acc.length c2] 33) = X3 at g4 hB4 h4
      clear hX2 hB1 h1 h3 hB3
      go_wp2_with fail
      clear hX3
      have hBX : Below w.heap.size w X3 := (hB0.trans (hB2.mono hs0)).trans (hB4.mono (by have := hB2.size; omega))
      have ht3 : TabAt X3 := fun j hj => (hBX.cell (p := ⟨0, j, none⟩) h0l).trans (ht j hj)
      have hF3 : F.answers X3.tape := by rw [hBX.tape]; exact hF
      have g1' := g2.up hB4
      have h1' := h2.up hB4
      rw [← hlI] at g1' hA1
      rw [← hlF] at g4 hA2
      have sX := hBX.size
      refine (view_ok F w1.heap.size n t s p m A1 wr.heap.size c1 acc X3 hF3 g1' hA1 h1' (by omega) hn hn2 htn hs hp hm ht3 hacc).mono ?_
      rintro e w4 ⟨bV, N, S, pr, g4a, c4, g5a, c5, gp, cap, rfl, V⟩
      have hB5 : Below w.heap.size w w4 := hBX.trans (V.below.mono sX)
      have ht4 : TabAt w4 := fun j hj => (hB5.cell (p := ⟨0, j, none⟩) h0l).trans (ht j hj)
      have hF4 : F.answers w4.tape := by rw [hB5.tape]; exact hF
      go_wp2_with fail
      refine (view_ok F w1.heap.size n t s q m A1 wr.heap.size c1 acc w4 hF4 (g1'.up V.below) hA1 (h1'.up V.below) (by omega) hn hn2 htn hs hq hm ht4 hacc).mono ?_
      rintro e w5 ⟨bV2, N2, S2, pr2, g42, c42, g52, c52, gp2, cap2, rfl, V2⟩
      have s5 := hB5.size
      have hB6 : Below w.heap.size w w5 := hB5.trans (V2.below.mono s5)
      have ht5 : TabAt w5 := fun j hj => (hB6.cell (p := ⟨0, j, none⟩) h0l).trans (ht j hj)
      have hF5 : F.answers w5.tape := by rw [hB6.tape]; exact hF
      have hBv : Below X3.heap.size X3 w5 := V.below.trans (V2.below.mono V.below.size)
      go_wp2_with fail
      refine (view_ok F w2.heap.size n t s p m A2 X2.heap.size c2 (accF acc) w5 hF5 (g4.up hBv) hA2 (h4.up hBv) (by rw [accF_length]; omega) hn hn2 htn hs hp hm ht5 (accF_ok hacc)).mono ?_
      rintro e w6 ⟨bV3, N3, S3, pr3, g43, c43, g53, c53, gp3, cap3, rfl, V3⟩
      have s6 := hB6.size
      have hB7 : Below w.heap.size w w6 := hB6.trans (V3.below.mono s6)
      clear ht3 hF3 ht4 hF4 ht5 hF5 g1' h1' g2 h2 g4 h4 hA1 hA2 hB2 hB4 hBX
      have hG : cutL (fullN n) (accF acc) = cutL (fullN n) acc := cutL_flip _ (fun p hp => (hacc p hp).2.2)
      rw [hG] at V3
      have hS3 : S3 = S := same_reach5 V.core V3.core hp V.reach V3.reach
      have hl2 := same_prs V.core V2.core V.prIff V.prOk V.prNodup V2.prIff V2.prOk V2.prNodup
      have hl3 := same_prs V.core V3.core V.prIff V.prOk V.prNodup V3.prIff V3.prOk V3.prNodup
      obtain ⟨hsee, hboth⟩ := see_both' V.core V2.core hp hq V.reach V2.reach
      subst hS3
      have b46 : Below w4.heap.size w4 w6 := V2.below.trans (V3.below.mono V2.below.size)
      have b56 : Below w5.heap.size w5 w6 := V3.below
      have vv := World.rowIs.of_block V.view (b46.block bV V.view.lt)
      have vv2 := World.rowIs.of_block V2.view (b56.block bV2 V2.view.lt)
      have vv3 := V3.view
      have v0 := vv.cell (i := 0) (by omega)
      have v1 := vv.cell (i := 1) (by omega)
      have v2 := vv.cell (i := 2) (by omega)
      have v3 := vv.cell (i := 3) (by omega)
      have v4 := vv.cell (i := 4) (by omega)
      have y0 := vv2.cell (i := 0) (by omega)
      have y1 := vv2.cell (i := 1) (by omega)
      have y2 := vv2.cell (i := 2) (by omega)
      have y3 := vv2.cell (i := 3) (by omega)
      have y4 := vv2.cell (i := 4) (by omega)
      have x0 := vv3.cell (i := 0) (by omega)
      have x1 := vv3.cell (i := 1) (by omega)
      have x2 := vv3.cell (i := 2) (by omega)
      have x3 := vv3.cell (i := 3) (by omega)
      have x4 := vv3.cell (i := 4) (by omega)
      simp only [Nat.succ_ne_zero, if_true, if_false, Nat.reduceEqDiff] at v0 v1 v2 v3 v4 y0 y1 y2 y3 y4 x0 x1 x2 x3 x4
      have hSp : S3 p = true := (V3.reach p).2 ⟨hp, .here⟩
      have hS2q : S2 q = true := (V2.reach q).2 ⟨hq, .here⟩
      have ia : IntsAt w6 g4a (upE S3 n) := V.alive.up V.lt.1 b46
      have ic : IntsAt w6 g5a (upE (notB S3) n) := V.corrupt.up V.lt.2.1 b46
      have ia2 : IntsAt w6 g42 (upE S2 n) := V2.alive.up V2.lt.1 b56
      have ic2 : IntsAt w6 g52 (upE (notB S2) n) := V2.corrupt.up V2.lt.2.1 b56
      have ia3 : IntsAt w6 g43 (upE S3 n) := V3.alive
      have ic3 : IntsAt w6 g53 (upE (notB S3) n) := V3.corrupt
      have ip : PairsAt w6 gp (sortP pr) := V.pairs.up V.lt.2.2 b46
      have ip2 : PairsAt w6 gp2 (sortP pr) := by rw [← hl2]; exact V2.pairs.up V2.lt.2.2 b56
      have ip3 : PairsAt w6 gp3 (sortP pr) := by rw [← hl3]; exact V3.pairs
      have hln : (sortP pr).length = pr.length := by simp [sortP]
      have hln2 : pr2.length = (sortP pr).length := by rw [← hl2]; simp [sortP]
      have hln3 : pr3.length = (sortP pr).length := by rw [← hl3]; simp [sortP]
      have hlp : (sortP pr).length ≤ 1048576 := by rw [hln]; exact Nat.le_trans V.prLen (Nat.mul_le_mul hn hn)
      rw [← hln] at v4
      rw [hln2] at y4
      rw [hln3] at x4
      have hsst := sortP_strict V.prNodup
      have hsok : ∀ p ∈ sortP pr, p.1 < p.2 ∧ p.2 < n := fun p hp => V.prOk p (mem_sortP.1 hp)
      generalize hLl : sortP pr = ll at v4 x4 y4 ip ip2 ip3 hlp hsst hsok
      have u1 := upE_length_le S3 n
      have u2 := upE_length_le (notB S3) n
      have u3 := upE_length_le S2 n
      have u4 := upE_length_le (notB S2) n
      have cPa : ∀ W : World, Kept (W.heap = w6.heap) → Calls Tryf.prog 17 #[.slice (some ⟨g4a, 0, none⟩) (upE S3 n).length c4, .slice (some ⟨g5a, 0, none⟩) (upE (notB S3) n).length c5, .int .i64 (n : Int)] W fun e w' => e = .returned (.bool true) ∧ w' = W := fun W hW => partition_any g4a g5a c4 c5 n S3 W (ia.heap hW) (ic.heap hW) hn
      have cPb : ∀ W : World, Kept (W.heap = w6.heap) → Calls Tryf.prog 17 #[.slice (some ⟨g42, 0, none⟩) (upE S2 n).length c42, .slice (some ⟨g52, 0, none⟩) (upE (notB S2) n).length c52, .int .i64 (n : Int)] W fun e w' => e = .returned (.bool true) ∧ w' = W := fun W hW => partition_any g42 g52 c42 c52 n S2 W (ia2.heap hW) (ic2.heap hW) hn
      have cCa : ∀ (x : Nat), x < n → ∀ W : World, Kept (W.heap = w6.heap) → Calls Tryf.prog 18 #[.slice (some ⟨g4a, 0, none⟩) (upE S3 n).length c4, .int .i64 ((x : Int) + 1)] W fun e w' => e = .returned (.bool (S3 x)) ∧ w' = W := fun x hx W hW => by
        have := contains_any g4a c4 x (upE S3 n) W (ia.heap hW) (by omega)
        rw [hasB_upE hx] at this
        exact this
      have cCb : ∀ (x : Nat), x < n → ∀ W : World, Kept (W.heap = w6.heap) → Calls Tryf.prog 18 #[.slice (some ⟨g42, 0, none⟩) (upE S2 n).length c42, .int .i64 ((x : Int) + 1)] W fun e w' => e = .returned (.bool (S2 x)) ∧ w' = W := fun x hx W hW => by
        have := contains_any g42 c42 x (upE S2 n) W (ia2.heap hW) (by omega)
        rw [hasB_upE hx] at this
        exact this
      have cI1 : ∀ W : World, Kept (W.heap = w6.heap) → Calls Tryf.prog 14 #[.slice (some ⟨g43, 0, none⟩) (upE S3 n).length c43, .slice (some ⟨g4a, 0, none⟩) (upE S3 n).length c4] W fun e w' => e = .returned (.bool true) ∧ ∃ k, w' = W.drewN k := fun W hW => intsEq_any g43 g4a c43 c4 (upE S3 n) W (ia3.heap hW) (ia.heap hW) (by omega)
      have cI2 : ∀ W : World, Kept (W.heap = w6.heap) → Calls Tryf.prog 14 #[.slice (some ⟨g53, 0, none⟩) (upE (notB S3) n).length c53, .slice (some ⟨g5a, 0, none⟩) (upE (notB S3) n).length c5] W fun e w' => e = .returned (.bool true) ∧ ∃ k, w' = W.drewN k := fun W hW => intsEq_any g53 g5a c53 c5 (upE (notB S3) n) W (ic3.heap hW) (ic.heap hW) (by omega)
      have cQ1 : ∀ W : World, Kept (W.heap = w6.heap) → Calls Tryf.prog 15 #[.slice (some ⟨gp3, 0, none⟩) ll.length cap3, .slice (some ⟨gp, 0, none⟩) ll.length cap] W fun e w' => e = .returned (.bool true) ∧ ∃ k, w' = W.drewN k := fun W hW => pairsEq_any gp3 gp cap3 cap ll W (ip3.heap hW) (ip.heap hW) hlp
      have cQ2 : ∀ W : World, Kept (W.heap = w6.heap) → Calls Tryf.prog 15 #[.slice (some ⟨gp2, 0, none⟩) ll.length cap2, .slice (some ⟨gp, 0, none⟩) ll.length cap] W fun e w' => e = .returned (.bool true) ∧ ∃ k, w' = W.drewN k := fun W hW => pairsEq_any gp2 gp cap2 cap ll W (ip2.heap hW) (ip.heap hW) hlp
      have cO : ∀ W : World, Kept (W.heap = w6.heap) → Calls Tryf.prog 19 #[.slice (some ⟨gp, 0, none⟩) ll.length cap, .int .i64 (n : Int)] W fun e w' => e = .returned (.bool true) ∧ w' = W := fun W hW => ordered_any gp cap n ll W (ip.heap hW) hsst hsok hlp
      have bw6 : Below w.heap.size w w6 := hB7
      obtain ⟨nn, hnn⟩ : ∃ nn, (n + 1) * (n + 1) = nn := ⟨_, rfl⟩
      have hnb : nn ≤ 1050625 := by
        rw [← hnn]
        exact Nat.mul_le_mul (show n + 1 ≤ 1025 by omega) (show n + 1 ≤ 1025 by omega)
      have hni : ((n : Int) + 1) * ((n : Int) + 1) = (nn : Int) := by rw [← hnn]; simp
      have hmk8 := run_make_row' (P := Tryf.prog) 38 4 (.bool false) 1 Tryf.underlying38 Tryf.info4 rfl .i64 .i64 nn (by omega) (by omega)
      have k24a := cCa p hp
      have k24b := cCb q hq
      rw [hSp] at k24a
      rw [hS2q] at k24b
      have k26a := cCa s hs
      have k26b := cCb s hs
      generalize hus : S3 s = us at v3 x3 k26a
      generalize hus2 : S2 s = us2 at y3 k26b
      replace hus := Kept.of hus
      replace hus2 := Kept.of hus2
      replace hSp := Kept.of hSp
      replace hS2q := Kept.of hS2q
      replace hsee := Kept.of hsee
      replace hboth := Kept.of hboth
      replace hLl := Kept.of hLl
      clear hln hln2 hln3 hl2 hl3
      go_wp2_with fail
      refine (wpIn_wide (n := 10)).1 ?_
      refine wpIn_wide_tail 23 hmx (by kernel_rfl) ?_
      simp only [List.take_succ_cons, List.take_zero, List.drop_succ_cons, List.drop_zero]
      iterate 12 (gi_big_quiet_step (first | (gi_at_call 17; refine CallsIn.quiet_of_same (callsIn_wide.2 (cPa _ (Kept.of rfl))))))
      repeat (gi_big_quiet_step (first | (gi_at_call 17; refine CallsIn.quiet_of_same (callsIn_wide.2 (cPb _ (Kept.of rfl))))))
      refine wpQuietIn_nil ?_
      rintro W1 ⟨nq, hW⟩
      have en : ∀ a, W1.cell? a = w6.cell? a := fun a => by rw [hW]; rfl
      have h61 : Kept (W1.heap = w6.heap) := by unfold Kept; rw [hW]; exact rfl
      have bW1 : Below w.heap.size w W1 := by rw [hW]; exact below_drewN bw6 nq
      simp only [← en] at v0 v1 v2 v3 v4 y0 y1 y2 y3 y4 x0 x1 x2 x3 x4
      clear hW en nq
      gi_wp2_with fail
      go_wp2_with fail
      refine (k24a _ h61).mono ?_
      rintro e w' ⟨rfl, hw⟩
      rw [hw]
      clear hw
      go_wp2_with fail
      refine (k24b _ h61).mono ?_
      rintro e w' ⟨rfl, hw⟩
      rw [hw]
      clear hw
      go_wp2_with fail
      refine (wpIn_wide (n := 10)).1 ?_
      refine wpIn_wide_tail 23 hmx (by kernel_rfl) ?_
      simp only [List.take_succ_cons, List.take_zero, List.drop_succ_cons, List.drop_zero]
      iterate 12 (gi_big_quiet_step (first | (gi_at_call 18; refine CallsIn.quiet_of_same (callsIn_wide.2 (k26a _ h61)))))
      repeat (gi_big_quiet_step (first | (gi_at_call 18; refine CallsIn.quiet_of_same (callsIn_wide.2 (k26b _ h61)))))
      refine wpQuietIn_nil ?_
      rintro W2 ⟨nq, hW⟩
      have en : ∀ a, W2.cell? a = W1.cell? a := fun a => by rw [hW]; rfl
      have h62 : Kept (W2.heap = w6.heap) := by unfold Kept; rw [hW]; exact h61
      have bW2 : Below w.heap.size w W2 := by rw [hW]; exact below_drewN bW1 nq
      simp only [← en] at v0 v1 v2 v3 v4 y0 y1 y2 y3 y4 x0 x1 x2 x3 x4
      clear hW en nq
      gi_wp2_with fail
      go_wp2_with fail
      refine (wpIn_wide (n := 10)).1 ?_
      refine wpIn_wide_tail 44 hmx (by kernel_rfl) ?_
      simp only [List.take_succ_cons, List.take_zero, List.drop_succ_cons, List.drop_zero]
      iterate 12 (gi_big_quiet_step (first | (gi_at_call 14; refine CallsIn.quiet_of (callsIn_wide.2 (cI1 _ h62)))))
      iterate 20 (gi_big_quiet_step (first | (gi_at_call 14; refine CallsIn.quiet_of (callsIn_wide.2 (cI2 _ h62)))))
      repeat (gi_big_quiet_step (first | (gi_at_call 15; refine CallsIn.quiet_of (callsIn_wide.2 (cQ1 _ h62)))))
      refine wpQuietIn_nil ?_
      rintro W3 ⟨nq, hW⟩
      have en : ∀ a, W3.cell? a = W2.cell? a := fun a => by rw [hW]; rfl
      have h63 : Kept (W3.heap = w6.heap) := by unfold Kept; rw [hW]; exact h62
      have bW3 : Below w.heap.size w W3 := by rw [hW]; exact below_drewN bW2 nq
      simp only [← en] at v0 v1 v2 v3 v4 y0 y1 y2 y3 y4 x0 x1 x2 x3 x4
      clear hW en nq
      gi_wp2_with fail
      go_wp2_with fail
      refine (wpIn_wide (n := 10)).1 ?_
      refine wpIn_wide_tail 18 hmx (by kernel_rfl) ?_
      simp only [List.take_succ_cons, List.take_zero, List.drop_succ_cons, List.drop_zero]
      iterate 12 (gi_big_quiet_step (first | (gi_at_call 15; refine CallsIn.quiet_of (callsIn_wide.2 (cQ2 _ h63)))))
      repeat (gi_big_quiet_step (first | (gi_at_call 19; refine CallsIn.quiet_of_same (callsIn_wide.2 (cO _ h63)))))
      refine wpQuietIn_nil ?_
      rintro W4 ⟨nq, hW⟩
      have en : ∀ a, W4.cell? a = W3.cell? a := fun a => by rw [hW]; rfl
      have h64 : Kept (W4.heap = w6.heap) := by unfold Kept; rw [hW]; exact h63
      have bW4 : Below w.heap.size w W4 := by rw [hW]; exact below_drewN bW3 nq
      simp only [← en] at v0 v1 v2 v3 v4 y0 y1 y2 y3 y4 x0 x1 x2 x3 x4
      clear hW en nq
      gi_wp2_with fail
      go_wp2_with fail
      clear hmk8
      have hacc' : ∀ i, i < acc.length → (acc[i]?.getD (0, 0)).1 < n ∧ (acc[i]?.getD (0, 0)).2 < n := fun i hi => by
        have := hacc (acc[i]) (List.getElem_mem hi)
        have e : acc[i]?.getD (0, 0) = acc[i] := by simp [hi]
        rw [e]
        exact ⟨this.1, this.2.1⟩
      have s64 : w.heap.size ≤ W4.heap.size := bW4.size
      go_loopg [26] acc.length (fun g x wr => ∃ i : Nat, i ≤ acc.length ∧ g = acc.length - i ∧ x = .int .i64 (i : Int) ∧ Below W4.heap.size W4 wr ∧ PrAt wr W4.heap.size n (accM (acc.take i)))
      case atStart =>
        refine ⟨0, Nat.zero_le _, rfl, rfl, (Below.refl _ W4).alloc (Nat.le_refl _) _, ?_⟩
        have := World.rowIs_made W4 (.bool false) nn 4
        rw [← hnn] at this
        rw [← hnn]
        exact this.congr fun k _ => by simp [prB, accM]
      case round =>
        obtain ⟨i, hi1, rfl, rfl, hb8, hp8⟩ := hrel
        by_cases hil : i < acc.length
        · have hiz : (i : Int) < (acc.length : Int) := by omega
          obtain rfl := hA (by omega)
          obtain ⟨a1, a2⟩ := hacc' i hil
          obtain ⟨d1, d2⟩ := h i (by rw [hlI]; exact hil)
          rw [accI_get acc hil] at d1 d2
          have hbl1 := hbl i hil
          have hb9 : Below w.heap.size w wr := bW4.trans (hb8.mono s64)
          have c1' := (hb9.cell (p := ⟨b, off + i * 2, none⟩) hbl1).trans d1
          have c2' := (hb9.cell (p := ⟨b, off + i * 2 + 1, none⟩) hbl1).trans d2
          have htk : acc.take (i + 1) = acc.take i ++ [acc[i]?.getD (0, 0)] := by
            rw [List.take_add_one]
            simp [hil]
          clear d1 d2
          generalize (acc[i]?.getD (0, 0)) = pp at a1 a2 c1' c2' htk
          obtain ⟨p1, p2⟩ := pp
          simp only at a1 a2 c1' c2'
          obtain ⟨q1, hq1⟩ : ∃ q, (p1 + 1) * (n + 1) = q := ⟨_, rfl⟩
          obtain ⟨q2, hq2⟩ : ∃ q, (p2 + 1) * (n + 1) = q := ⟨_, rfl⟩
          have hqi1 : ((p1 : Int) + 1) * ((n : Int) + 1) = (q1 : Int) := by rw [← hq1]; simp
          have hqi2 : ((p2 : Int) + 1) * ((n : Int) + 1) = (q2 : Int) := by rw [← hq2]; simp
          have b1 := ix_lt a1 a2
          have b2 := ix_lt a2 a1
          rw [hq1, hnn] at b1
          rw [hq2, hnn] at b2
          have b3 : (q1 : Int) + ((p2 : Int) + 1) < (nn : Int) := by omega
          have b4 : (q2 : Int) + ((p1 : Int) + 1) < (nn : Int) := by omega
          have e1 := hp8.put a2 hq1 true
          have e2 := e1.put a1 hq2 true
          have e3 : accM (acc.take (i + 1)) = putN (putN (accM (acc.take i)) p1 p2 true) p2 p1 true := by
            rw [htk, accM_snoc]
          rw [← e3] at e2
          have z1 := World.rowIs.cell hp8 (i := q1 + (p2 + 1)) (by omega)
          have z2 := World.rowIs.frozen hp8 (q1 + (p2 + 1))
          have hb' := (hb8.setCell (p := ⟨W4.heap.size, q1 + (p2 + 1), none⟩) (Nat.le_refl _) (.bool true)).setCell (p := ⟨W4.heap.size, q2 + (p1 + 1), none⟩) (Nat.le_refl _) (.bool true)
          generalize hV8 : wr.setCell ⟨W4.heap.size, q1 + (p2 + 1), none⟩ (.bool true) = V8 at e1 e2 hb'
          have z3 := World.rowIs.cell e1 (i := q2 + (p1 + 1)) (by omega)
          have z4 := World.rowIs.frozen e1 (q2 + (p1 + 1))
          clear e1 htk e3 hp8 hb8
          go_wp2_with fail
          go_roundg (acc.length - (i + 1))
          case measure => omega
          case rel => exact ⟨i + 1, by omega, rfl, by go_num, hb', e2⟩
        · have hiz : ¬ ((i : Int) < (acc.length : Int)) := by omega
          obtain rfl : i = acc.length := by omega
          rw [List.take_length] at hp8
          obtain ⟨w9, e9⟩ : ∃ w9, w9 = wr := ⟨_, rfl⟩
          rw [← e9]
          rw [← e9] at hb8 hp8
          clear e9
          have b9 : Below w.heap.size w w9 := bW4.trans (hb8.mono s64)
          have sz4 : w6.heap.size ≤ W4.heap.size := by
            have e := h64
            unfold Kept at e
            rw [e]
            exact Nat.le_refl _
          have sz46 := b46.size
          have sz56 := b56.size
          have l4 := V.lt
          have l5 := V2.lt
          have ia9 : IntsAt w9 g4a (upE S3 n) := (ia.heap h64).up (by omega) hb8
          have ic9 : IntsAt w9 g5a (upE (notB S3) n) := (ic.heap h64).up (by omega) hb8
          have ia9' : IntsAt w9 g42 (upE S2 n) := (ia2.heap h64).up (by omega) hb8
          have ic9' : IntsAt w9 g52 (upE (notB S2) n) := (ic2.heap h64).up (by omega) hb8
          have ip9 : PairsAt w9 gp ll := (ip.heap h64).up (by omega) hb8
          have q1 := (hb8.cell (p := ⟨bV, 1, none⟩) (block_lt_of_cell v1)).trans v1
          have q2 := (hb8.cell (p := ⟨bV, 2, none⟩) (block_lt_of_cell v2)).trans v2
          have q4 := (hb8.cell (p := ⟨bV, 4, none⟩) (block_lt_of_cell v4)).trans v4
          have r1 := (hb8.cell (p := ⟨bV2, 1, none⟩) (block_lt_of_cell y1)).trans y1
          have r2 := (hb8.cell (p := ⟨bV2, 2, none⟩) (block_lt_of_cell y2)).trans y2
          have hG0 : ∀ pp ∈ ll, accM acc pp.1 pp.2 = false := fun pp hpp => by
            have e := hLl
            unfold Kept at e
            have hm : pp ∈ pr := mem_sortP.1 (by rw [e]; exact hpp)
            have ho := V.prOk pp hm
            have hg := ((V.prIff pp.1 pp.2 ho.1 ho.2).1 hm).1
            have hc := (cutL_at acc (fullN n) pp.1 pp.2 (fun p hp => (hacc p hp).2.2)).1 hg
            exact accM_no hc.2.1 hc.2.2
          have hP3 : ∀ k, k < ll.length → (ll[k]?.getD (0, 0)).1 < n ∧ (ll[k]?.getD (0, 0)).2 < n ∧ accM acc (ll[k]?.getD (0, 0)).1 (ll[k]?.getD (0, 0)).2 = false := fun k hk => by
            have e : ll[k]?.getD (0, 0) = ll[k] := by simp [hk]
            have hm := List.getElem_mem hk
            rw [e]
            have := hsok _ hm
            exact ⟨by omega, this.2, hG0 _ hm⟩
          replace hG0 := Kept.of hG0
          replace hP3 := Kept.of hP3
          have k47 : ∀ W : World, Kept (W.heap = w9.heap) → Calls Tryf.prog 18 #[.slice (some ⟨g4a, 0, none⟩) (upE S3 n).length c4, .int .i64 ((q : Int) + 1)] W fun e w' => e = .returned (.bool (S3 q)) ∧ w' = W := fun W hW => by
            have := contains_any g4a c4 q (upE S3 n) W (ia9.heap hW) (by omega)
            rw [hasB_upE hq] at this
            exact this
          have k48 : ∀ W : World, Kept (W.heap = w9.heap) → Calls Tryf.prog 18 #[.slice (some ⟨g42, 0, none⟩) (upE S2 n).length c42, .int .i64 ((p : Int) + 1)] W fun e w' => e = .returned (.bool (S3 q)) ∧ w' = W := fun W hW => by
            have := contains_any g42 c42 p (upE S2 n) W (ia9'.heap hW) (by omega)
            have e := hsee
            unfold Kept at e
            rw [hasB_upE hp, ← e] at this
            exact this
          have k51 : S3 q = true → Kept ((∀ W : World, Kept (W.heap = w9.heap) → Calls Tryf.prog 14 #[.slice (some ⟨g4a, 0, none⟩) (upE S3 n).length c4, .slice (some ⟨g42, 0, none⟩) (upE S2 n).length c42] W fun e w' => e = .returned (.bool true) ∧ ∃ k, w' = W.drewN k) ∧
              ∀ W : World, Kept (W.heap = w9.heap) → Calls Tryf.prog 14 #[.slice (some ⟨g5a, 0, none⟩) (upE (notB S3) n).length c5, .slice (some ⟨g52, 0, none⟩) (upE (notB S2) n).length c52] W fun e w' => e = .returned (.bool true) ∧ ∃ k, w' = W.drewN k) := fun hSq => by
            have e := hboth
            unfold Kept at e ⊢
            have e' := e hSq
            rw [← e'] at ia9' ic9' ⊢
            exact ⟨fun W hW => intsEq_any g4a g42 c4 c42 (upE S3 n) W (ia9.heap hW) (ia9'.heap hW) (by omega), fun W hW => intsEq_any g5a g52 c5 c52 (upE (notB S3) n) W (ic9.heap hW) (ic9'.heap hW) (by omega)⟩
          replace k51 := Kept.of k51
          clear v0 v1 v2 v3 v4 x0 x1 x2 x3 x4 y0 y1 y2 y3 y4 ia ic ia2 ic2 ia3 ic3 ip ip2 ip3 cPa cPb cCa cCb cI1 cI2 cQ1 cQ2 cO k24a k24b k26a k26b vv vv2 vv3 hsst hG0
          go_wp2_with fail
          go_loopg [339] ll.length (fun g x wr => ∃ i : Nat, i ≤ ll.length ∧ g = ll.length - i ∧ x = .int .i64 (i : Int) ∧ Kept (wr.heap = w9.heap) ∧ Below w.heap.size w wr)
          case atStart => exact ⟨0, Nat.zero_le _, rfl, rfl, Kept.of rfl, b9⟩
          case round =>
            obtain ⟨i, hi1, rfl, rfl, hk9, hb⟩ := hrel
            have en : ∀ a, wr.cell? a = w9.cell? a := fun a => World.cell?_of_block (by have e := hk9; unfold Kept at e; rw [e])
            simp only [← en] at q1 q2 q4 r1 r2
            by_cases hil : i < ll.length
            · have hiz3 : (i : Int) < (ll.length : Int) := by omega
              have e3 := hP3
              unfold Kept at e3
              obtain ⟨a1, a2, a3⟩ := e3 i hil
              clear e3
              obtain ⟨d1, d2⟩ := ip9 i hil
              generalize (ll[i]?.getD (0, 0)) = pp at a1 a2 a3 d1 d2
              obtain ⟨p1, p2⟩ := pp
              simp only at a1 a2 a3 d1 d2
              obtain ⟨qq, hqq⟩ : ∃ q, (p1 + 1) * (n + 1) = q := ⟨_, rfl⟩
              have hqi : ((p1 : Int) + 1) * ((n : Int) + 1) = (qq : Int) := by rw [← hqq]; simp
              have b1 := ix_lt a1 a2
              rw [hqq, hnn] at b1
              have b3 : (qq : Int) + ((p2 : Int) + 1) < (nn : Int) := by omega
              have z1 := hp8.at a1 a2 hqq
              rw [a3] at z1
              rw [← en] at d1 d2 z1
              clear en
              go_wp2_with fail
              refine (wpIn_wide (n := 10)).1 ?_
              refine wpIn_wide_tail 21 hmx (by kernel_rfl) ?_
              simp only [List.take_succ_cons, List.take_zero, List.drop_succ_cons, List.drop_zero]
              repeat (gi_big_quiet_step (fail))
              refine wpQuietIn_nil ?_
              rintro W5 ⟨nq, hW⟩
              have hkW : Kept (W5.heap = w9.heap) := by unfold Kept; rw [hW]; exact hk9
              have hbW : Below w.heap.size w W5 := by rw [hW]; exact below_drewN hb nq
              have en5 : ∀ a, W5.cell? a = wr.cell? a := fun a => by rw [hW]; rfl
              rw [← en5] at z1
              clear hW en5
              gi_wp2_with fail
              go_wp2_with fail
              go_roundg (ll.length - (i + 1))
              case measure => omega
              case rel => exact ⟨i + 1, by omega, rfl, by go_num, hkW, hbW⟩
            · have hiz3 : ¬ ((i : Int) < (ll.length : Int)) := by omega
              clear en
              cases hSq : S3 q with
              | false =>
                have k1 := k47 wr hk9
                have k2 := k48 wr hk9
                rw [hSq] at k1 k2
                clear k47 k48 k51
                go_wp2_with fail
                refine k1.mono ?_
                rintro e w' ⟨rfl, hw⟩
                rw [hw]
                clear hw
                go_wp2_with fail
                refine k2.mono ?_
                rintro e w' ⟨rfl, hw⟩
                rw [hw]
                clear hw
                go_wp2_with fail
                go_ret
                exact ⟨rfl, hb⟩
              | true =>
                have k1 := k47 wr hk9
                have k2 := k48 wr hk9
                rw [hSq] at k1 k2
                have k5 := k51
                unfold Kept at k5
                obtain ⟨k5a, k5b⟩ := k5 hSq
                clear k47 k48 k51 k5
                go_wp2_with fail
                refine k1.mono ?_
                rintro e w' ⟨rfl, hw⟩
                rw [hw]
                clear hw
                go_wp2_with fail
                refine k2.mono ?_
                rintro e w' ⟨rfl, hw⟩
                rw [hw]
                clear hw
                go_wp2_with fail
                refine (wpIn_wide (n := 10)).1 ?_
                refine wpIn_wide_tail 20 hmx (by kernel_rfl) ?_
                simp only [List.take_succ_cons, List.take_zero, List.drop_succ_cons, List.drop_zero]
                iterate 10 (gi_big_quiet_step (first | (gi_at_call 14; refine CallsIn.quiet_of (callsIn_wide.2 (k5a _ hk9)))))
                repeat (gi_big_quiet_step (first | (gi_at_call 14; refine CallsIn.quiet_of (callsIn_wide.2 (k5b _ hk9)))))
                refine wpQuietIn_nil ?_
                rintro W5 ⟨nq, hW⟩
                have hbW : Below w.heap.size w W5 := by rw [hW]; exact below_drewN hb nq
                clear hW
                gi_wp2_with fail
                go_wp2_with fail
                go_ret
                exact ⟨rfl, hbW⟩

end Go.Proofs.Qxb6615834aFmt
