/-
  FnViewMatchesPruningModel: the walk where the input is good.
-/
import Derived.Test.Qxb6615834aFmtZz3
import Derived.Test.Qxb6615834aFmtZz4
import Derived.Test.Qxb6615834aFmtLaw4b
import Derived.Test.Qxb6615834aFmtL31
namespace Go.Proofs.Qxb6615834aFmt
open Go.RowKit Go.Deep Go.Extern.Stop Go.Stop Go.Extern

theorem same_reach {N N' G : Nat → Nat → Bool} {n h p : Nat} {S M : Nat → Bool} (a : Core N G n h) (b : Core N' G n h) (hp : p < n) (hS : ∀ x, S x = true ↔ x < n ∧ Reach N p x) (hM : ∀ x, M x = true ↔ x < n ∧ Reach N' p x) : M = S := by
  have e : ∀ x y, x < n → y < n → N x y = N' x y := fun x y hx hy => a.unique b x y hx hy
  funext x
  have h1 : M x = true ↔ S x = true := by
    rw [hS, hM]
    constructor
    · rintro ⟨h1, h2⟩
      exact ⟨h1, (Reach.congr (fun x y hx hy => (e x y hx hy).symm) b.gr.lt hp h2).1⟩
    · rintro ⟨h1, h2⟩
      exact ⟨h1, (Reach.congr e a.gr.lt hp h2).1⟩
  cases hx : M x <;> cases hy : S x
  · rfl
  · rw [hx, hy] at h1; simp at h1
  · rw [hx, hy] at h1; simp at h1
  · rfl

theorem same_pr {N N' G P : Nat → Nat → Bool} {n h : Nat} {pr : List (Nat × Nat)} (a : Core N G n h) (b : Core N' G n h) (hpr : ∀ x y, x < y → y < n → ((x, y) ∈ pr ↔ G x y = true ∧ N x y = false)) (hok : ∀ p ∈ pr, p.1 < p.2 ∧ p.2 < n) (hnd : pr.Nodup) (hP : SInv G N' n h P) : sortP pr = lexL P n n :=
  sortP_lex hnd hok (fun x y hxy hy => by rw [hpr x y hxy hy, hP.pr x y hxy hy, a.unique b x y (by omega) hy])

/-- The pairs that the law lists. -/
structure LexAt (w : World) (H : Nat) (l : List (Nat × Nat)) (v : Value) (wr : World) : Prop where
  below : Below H w wr
  form : ∃ g c, v = .slice (some ⟨g, 0, none⟩) l.length c
  own : wr.ownsRow H 43 2 v l.length (pairCells l)

theorem LexAt.push {w wr w1 : World} {H g c g' cap' : Nat} {l : List (Nat × Nat)} {x y : Nat} {o : Obj} (h : LexAt w H l (.slice (some ⟨g, 0, none⟩) l.length c) wr) 
    (hown : w1.ownsRow H 43 2 (.slice (some ⟨g', 0, none⟩) (l.length + 1) cap') (l.length + 1) (pairCells l ++ [.int .i64 ((x : Int) + 1), .int .i64 ((y : Int) + 1)])) (hg : (wr.alloc o).grownBy w1 (Value.slice (some ⟨g, 0, none⟩) l.length c).ownBlock) (hHw : H ≤ wr.heap.size) :
    LexAt w H (l ++ [(x, y)]) (.slice (some ⟨g', 0, none⟩) (l.length + 1) cap') w1 := by
  have hgl := (h.own.lt g rfl).1
  have T : Turns (fun j => j = g) wr w1 := ((Turns.refl _ wr).alloc o).grown hg (fun k e => by simpa [Value.ownBlock] using e.symm)
  refine ⟨h.below.trans (T.below (fun k _ e => by omega) hHw), ⟨g', cap', by simp⟩, ?_⟩
  rw [List.length_append, pairCells_append]
  exact hown

theorem lexRow_len (P : Nat → Nat → Bool) (a k : Nat) : (lexRow P a k).length ≤ k := by
  unfold lexRow
  rw [List.length_map]
  exact Nat.le_trans (List.length_filter_le _ _) (by simp)
theorem lexL_len (P : Nat → Nat → Bool) (n : Nat) : ∀ a, (lexL P n a).length ≤ a * n
  | 0 => by simp [lexL]
  | a + 1 => by
    have h1 := lexL_len P n a
    have h2 := lexRow_len P a n
    rw [lexL_succ, List.length_append, Nat.succ_mul]
    omega

set_option maxRecDepth 1000000 in
set_option maxHeartbeats 8000000 in
theorem law4_good (F : Interp) (n t s p m : Nat) (A : Option Addr) (b off c : Nat) (acc : List (Nat × Nat)) (w : World) (hF : F.answers w.tape) (ht : TabAt w) (hA : 0 < acc.length → A = some ⟨b, off, none⟩) (h : IPAt w b off (accI acc)) (hl : acc.length ≤ 65536)
    (hn : n ≤ 1024) (hn2 : 2 ≤ n) (htn : t < n) (hs : s < n) (hp : p < n) (hm : (n + 63) / 64 = m) (hacc : ∀ p ∈ acc, p.1 < n ∧ p.2 < n ∧ p.1 ≠ p.2) :
    Calls Tryf.prog 4 #[.int .i64 (n : Int), .int .i64 (t : Int), .int .i64 ((s : Int) + 1), .slice A acc.length c, .int .i64 ((p : Int) + 1)] w fun e w' => e = .returned (.bool true) ∧ Below w.heap.size w w' := by
  have hlI : (accI acc).length = acc.length := accI_length acc
  have kB := zzBytes_any n t ((s : Int) + 1) ((p : Int) + 1) A acc.length c w (by omega)
  have kT := toAcc_any A b off c (accI acc) w h (by rw [hlI]; exact hA) (by omega)
  rw [hlI] at kT
  have hlz : ¬ ((65536 : Int) < (acc.length : Int)) := by omega
  have hok : allOk n (accI acc) := fun i hi => by
    rw [hlI] at hi
    rw [accI_get acc hi]
    have := hacc (acc[i]) (List.getElem_mem hi)
    have e : acc[i]?.getD (0, 0) = acc[i] := by simp [hi]
    rw [e]
    obtain ⟨h1, h2, h3⟩ := this
    refine ⟨?_, ?_, ?_, ?_, ?_⟩ <;> simp only <;> omega
  have hok2 : validB n (accI acc) = true := validB_true.2 hok
  have h0l : 0 < w.heap.size := by have := block_lt_of_cell (ht 0 (by omega)); simpa using this
  have hbl : ∀ i, i < acc.length → b < w.heap.size := fun i hi => block_lt_of_cell (h i (by rw [hlI]; exact hi)).1
  go_enter Tryf.func4, Tryf.ntmps4
  go_wp2_with (first | (go_at_call 8; refine kB.mono ?_; rintro e w' ⟨rfl, hw⟩; rw [hw]; clear hw) | (go_at_call 9; refine kT.mono ?_; rintro e w1 ⟨A', c', rfl, hA', h1, hB1⟩))
  clear kB kT
  have hs1 := hB1.size
  have T2 : Turns (fun _ => False) w1 (w1.alloc (.cells #[.int .i64 (n : Int), .int .i64 (t : Int), .int .i64 ((s : Int) + 1), .slice A' acc.length c'] 33)) := (Turns.refl _ w1).alloc _
  have g2 : AGAt (w1.alloc (.cells #[.int .i64 (n : Int), .int .i64 (t : Int), .int .i64 ((s : Int) + 1), .slice A' acc.length c'] 33)) w1.heap.size n t ((s : Int) + 1) (.slice A' (accI acc).length c') := by
    rw [hlI]
    exact World.rowIs_alloc w1 #[.int .i64 (n : Int), .int .i64 (t : Int), .int .i64 ((s : Int) + 1), .slice A' acc.length c'] 33 _ (fun i hi => by
      have : i = 0 ∨ i = 1 ∨ i = 2 ∨ i = 3 := by simp at hi; omega
      rcases this with rfl | rfl | rfl | rfl <;> rfl)
  have hB2 : Below w.heap.size w (w1.alloc (.cells #[.int .i64 (n : Int), .int .i64 (t : Int), .int .i64 ((s : Int) + 1), .slice A' acc.length c'] 33)) := hB1.trans (T2.below (fun _ _ e => e.elim) hs1)
  have h2 : IPAt (w1.alloc (.cells #[.int .i64 (n : Int), .int .i64 (t : Int), .int .i64 ((s : Int) + 1), .slice A' acc.length c'] 33)) w.heap.size 0 (accI acc) := fun i hi => by
    obtain ⟨y1, y2⟩ := h1 i hi
    have hlt : w.heap.size < w1.heap.size := block_lt_of_cell y1
    have hblk := T2.block w.heap.size hlt (fun e => e)
    exact ⟨(World.cell?_of_block (a := ⟨w.heap.size, 0 + i * 2, none⟩) hblk).trans y1, (World.cell?_of_block (a := ⟨w.heap.size, 0 + i * 2 + 1, none⟩) hblk).trans y2⟩
  generalize w1.alloc (.cells #[.int .i64 (n : Int), .int .i64 (t : Int), .int .i64 ((s : Int) + 1), .slice A' acc.length c'] 33) = X2 at T2 g2 hB2 h2 ⊢
  have hF2 : F.answers X2.tape := by rw [hB2.tape]; exact hF
  have ht2 : TabAt X2 := fun j hj => (hB2.cell (p := ⟨0, j, none⟩) h0l).trans (ht j hj)
  refine (view_ok F w1.heap.size n t s p m A' w.heap.size c' acc X2 hF2 g2 (by rw [hlI]; exact hA') h2 (by omega) hn hn2 htn hs hp hm ht2 hacc).mono ?_
  rintro e w3 ⟨bV, N, S, pr, g4, c4, g5, c5, g, cap, rfl, V⟩
  have hs2 := hB2.size
  have hB3 : Below w.heap.size w w3 := hB2.trans (V.below.mono hs2)
  clear T2 g2 hB2 h2 hF2 ht2 hB1 h1 hA'
  have h3 : IPAt w3 b off (accI acc) := fun i hi => by
    obtain ⟨y1, y2⟩ := h i hi
    have hlt := hbl i (by rw [← hlI]; exact hi)
    exact ⟨(hB3.cell (p := ⟨b, off + i * 2, none⟩) hlt).trans y1, (hB3.cell (p := ⟨b, off + i * 2 + 1, none⟩) hlt).trans y2⟩
  have kV := valid_any n t ((s : Int) + 1) A b off c (accI acc) w3 ⟨by omega, by omega, by omega, by omega, by omega, by omega⟩ (by rw [hlI]; exact hA) h3 (by omega)
  rw [hlI, hok2] at kV
  have kP := zzPrune_any n t A b off c acc w3 hn hn2 htn hA h3 hacc (by omega)
  have hpz1 : ¬ ((p : Int) + 1 < 1) := by omega
  have hpz2 : ¬ ((n : Int) < (p : Int) + 1) := by omega
  obtain ⟨nn, hnn⟩ : ∃ nn, (n + 1) * (n + 1) = nn := ⟨_, rfl⟩
  rw [hnn] at kP
  have hnb : nn ≤ 1050625 := by
    rw [← hnn]
    exact Nat.mul_le_mul (show n + 1 ≤ 1025 by omega) (show n + 1 ≤ 1025 by omega)
  go_wp2_with (first | (go_at_call 11; refine kV.mono ?_; rintro e w' ⟨rfl, hw⟩; rw [hw]; clear hw) | (go_at_call 12; refine kP.mono ?_; rintro e w4 ⟨rfl, ⟨N', P, hco, hsi, hz⟩⟩))
  refine (zzReach_any w3.heap.size n p nn nn N' w4 hz.adj hsi.gr hp hn hnn).mono ?_
  rintro e w5 ⟨rfl, ⟨M, hM, hr⟩⟩
  have hMS : M = S := same_reach V.core hco hp V.reach hM
  have hpl : sortP pr = lexL P n n := same_pr V.core hco V.prIff V.prOk V.prNodup hsi
  subst hMS
  clear kV kP hM hco hsi
  have hz4 : w3.heap.size + 2 ≤ w4.heap.size := Nat.le_of_eq hz.size.symm
  have hB45 : Below w3.heap.size w3 w5 := hz.below.trans (hr.below.mono (by omega))
  have hpr5 : PrAt w5 (w3.heap.size + 1) n P := World.rowIs.of_block hz.pr (hr.below.block _ (by omega))
  have hs5 : w4.heap.size + 1 ≤ w5.heap.size := Nat.le_of_eq hr.size.symm
  have hs3 := hB3.size
  obtain ⟨H5, hH5⟩ : ∃ H5, w5.heap.size = H5 := ⟨_, rfl⟩
  obtain ⟨i0, hi, hz0, hz1, hz2⟩ := info_parts Tryf.info3
  obtain ⟨j0, hj, hy0, hy1, hy2⟩ := info_parts Tryf.info43
  go_wp2_with fail
  go_loopg [17, 18, 19] n (fun g x4 x5 x wr => ∃ j : Nat, j ≤ n ∧ g = n - j ∧ x = .int .i64 ((j : Int) + 1) ∧ SplitAt w5 H5 M j x4 x5 wr)
  case atStart => exact ⟨0, Nat.zero_le _, rfl, rfl, SplitAt.start M hH5⟩
  case round =>
    obtain ⟨j, hj1, rfl, rfl, h⟩ := hrel
    have hsz := h.below.size
    by_cases hjn : j < n
    · have hzz : (j : Int) + 1 ≤ (n : Int) := by omega
      have hzz2 : (j : Int) + 1 < (n : Int) + 1 := by omega
      have cm := (h.below.cell (p := ⟨w4.heap.size, j + 1, none⟩) (by simp only; omega)).trans (hr.mrk.at hjn)
      obtain ⟨g4', c4', rfl⟩ := h.i4
      obtain ⟨g5', c5', rfl⟩ := h.i5
      have l4 := upE_length_le M j
      have l5 := upE_length_le (notB M) j
      cases hs' : M j
      · rw [hs'] at cm
        go_wp2_with (at_builtin; refine wpList_append_own_at _ rfl _ _ 42 rfl H5 3 i0 (.int .i64 0) 1 8 Tryf.underlying42 hi hz0 hz1 hz2 rfl (by decide) _ _ _ rfl (h.o5.alloc _) ⟨wr.heap.size, 0, none⟩ 1 1 [.int .i64 ((j : Int) + 1)] rfl rfl (cell_one_new _ _ _) (by simp [Value.oneCell']) (by unfold maxLen; omega) (by omega) (by simp; omega) ?_; intro v' w6 hown' hgrow _ hat; obtain ⟨g', cap', rfl⟩ := ownsRow_succ hown')
        go_roundg (n - (j + 1))
        case measure => omega
        case rel => exact ⟨j + 1, hjn, rfl, by go_num, h.push5 hs' hown' ⟨hgrow.os, hgrow.tape, hgrow.output, hgrow.size, hgrow.block⟩ hat⟩
      · rw [hs'] at cm
        go_wp2_with (at_builtin; refine wpList_append_own_at _ rfl _ _ 42 rfl H5 3 i0 (.int .i64 0) 1 8 Tryf.underlying42 hi hz0 hz1 hz2 rfl (by decide) _ _ _ rfl (h.o4.alloc _) ⟨wr.heap.size, 0, none⟩ 1 1 [.int .i64 ((j : Int) + 1)] rfl rfl (cell_one_new _ _ _) (by simp [Value.oneCell']) (by unfold maxLen; omega) (by omega) (by simp; omega) ?_; intro v' w6 hown' hgrow _ hat; obtain ⟨g', cap', rfl⟩ := ownsRow_succ hown')
        go_roundg (n - (j + 1))
        case measure => omega
        case rel => exact ⟨j + 1, hjn, rfl, by go_num, h.push4 hs' hown' ⟨hgrow.os, hgrow.tape, hgrow.output, hgrow.size, hgrow.block⟩ hat⟩
    · have hzz : ¬ ((j : Int) + 1 ≤ (n : Int)) := by omega
      obtain rfl : j = n := by omega
      obtain ⟨g17, c17, rfl⟩ := h.i4
      obtain ⟨g18, c18, rfl⟩ := h.i5
      have o17 := ints_of_owns h.o4
      have o18 := ints_of_owns h.o5
      have l17 := (h.o4.lt g17 rfl).2
      have l18 := (h.o5.lt g18 rfl).2
      have hB56 : Below w5.heap.size w5 wr := by rw [hH5]; exact h.below
      have hpr6 : PrAt wr (w3.heap.size + 1) j P := World.rowIs.of_block hpr5 (hB56.block _ (by omega))
      have hB36 : Below w3.heap.size w3 wr := hB45.trans (hB56.mono (by omega))
      have mk6 := (h.below.cell (p := ⟨w4.heap.size, s + 1, none⟩) (by simp only; omega)).trans (hr.mrk.at hs)
      obtain ⟨H6, hH6⟩ : ∃ H6, wr.heap.size = H6 := ⟨_, rfl⟩
      have x0 : LexAt wr H6 [] (.slice (some ⟨H6, 0, none⟩) 0 0) (wr.alloc (.cells #[] 43)) := by
        refine ⟨(Below.refl H6 wr).alloc (by omega) _, ⟨H6, 0, rfl⟩, rfl, Or.inr ⟨H6, 0, #[], rfl, Nat.le_refl _, ?_, Nat.le_refl _, by unfold maxLen; omega, rfl, rfl⟩⟩
        rw [← hH6]
        exact blk_alloc_new _ _
      obtain ⟨w6, e6⟩ : ∃ w6, w6 = wr := ⟨wr, rfl⟩
      have x0' : LexAt w6 H6 [] (.slice (some ⟨H6, 0, none⟩) 0 0) (wr.alloc (.cells #[] 43)) := by rw [e6]; exact x0
      replace hpr6 : PrAt w6 (w3.heap.size + 1) j P := by rw [e6]; exact hpr6
      replace hB36 : Below w3.heap.size w3 w6 := by rw [e6]; exact hB36
      replace o17 : IntsAt w6 g17 (upE M j) := by rw [e6]; exact o17
      replace o18 : IntsAt w6 g18 (upE (notB M) j) := by rw [e6]; exact o18
      replace mk6 : w6.cell? ⟨w4.heap.size, s + 1, none⟩ = some (.bool (M s)) := by rw [e6]; exact mk6
      have hB56s : w5.heap.size ≤ H6 := by rw [← hH6]; exact hB56.size
      have z6 : w6.heap.size = H6 := by rw [e6]; exact hH6
      rw [hH6] at l17 l18
      clear h hr hpr5 e6 x0 hB56
      go_wp2_with fail
      clear hH6
      go_loopg [21, 22] j (fun g x21 x wr' => ∃ a : Nat, a ≤ j ∧ g = j - a ∧ x = .int .i64 ((a : Int) + 1) ∧ LexAt w6 H6 (lexL P j a) x21 wr')
      case atStart => exact ⟨0, Nat.zero_le _, rfl, rfl, x0'⟩
      case round =>
        clear x0'
        obtain ⟨a, ha, rfl, rfl, x0⟩ := hrel
        by_cases han : a < j
        · have haz : (a : Int) + 1 ≤ (j : Int) := by omega
          obtain ⟨q, hq⟩ : ∃ q, (a + 1) * (j + 1) = q := ⟨_, rfl⟩
          have hqi : ((a : Int) + 1) * ((j : Int) + 1) = (q : Int) := by rw [← hq]; simp
          have hll : (lexL P j a).length ≤ 1048576 := Nat.le_trans (lexL_len P j a) (Nat.le_trans (Nat.mul_le_mul (show a ≤ 1024 by omega) (show j ≤ 1024 by omega)) (by omega))
          go_wp2_with fail
          go_loopg [21, 23] (j - (a + 1)) (fun g x21 x wr' => ∃ i : Nat, a + 1 ≤ i ∧ i ≤ j ∧ g = j - i ∧ x = .int .i64 ((i : Int) + 1) ∧ LexAt w6 H6 (lexL P j a ++ lexRow P a i) x21 wr')
          case atStart => exact ⟨a + 1, Nat.le_refl _, by omega, rfl, by go_num, by rw [lexRow_zero, List.append_nil]; exact x0⟩
          case round =>
            clear x0
            obtain ⟨i, hai, hi1, rfl, rfl, x0⟩ := hrel
            by_cases hin : i < j
            · have hiz : (i : Int) + 1 ≤ (j : Int) := by omega
              have b1 := ix_lt han hin
              rw [hq, hnn] at b1
              have b3 : (q : Int) + ((i : Int) + 1) < (nn : Int) := by omega
              have hsz7 := x0.below.size
              have c1 := (x0.below.cell (p := ⟨w3.heap.size + 1, q + (i + 1), none⟩) (by simp only; omega)).trans (hpr6.at han hin hq)
              have hrow : lexL P j a ++ lexRow P a (i + 1) = if P a i = true then (lexL P j a ++ lexRow P a i) ++ [(a, i)] else lexL P j a ++ lexRow P a i := by
                rw [lexRow_succ]
                by_cases e : P a i = true
                · rw [if_pos ⟨by omega, e⟩, if_pos e, List.append_assoc]
                · rw [if_neg (fun h => e h.2), if_neg e]
              have hlr : (lexL P j a ++ lexRow P a i).length ≤ 1050000 := by
                have := lexRow_len P a i
                rw [List.length_append]
                omega
              have hKr := Kept.of hrow
              clear hrow
              generalize hLL : lexL P j a ++ lexRow P a i = L at x0 hKr hlr
              replace hLL := Kept.of hLL
              obtain ⟨g21, c21, rfl⟩ := x0.form
              cases hP : P a i with
              | false =>
                rw [hP] at c1
                have x1 : Kept (LexAt w6 H6 (lexL P j a ++ lexRow P a (i + 1)) (.slice (some ⟨g21, 0, none⟩) L.length c21) wr) := by
                  unfold Kept at *
                  rw [hKr, hP]
                  exact x0
                clear x0 hP hKr
                go_wp2_with fail
                go_roundg (j - (i + 1))
                case measure => omega
                case rel => exact ⟨i + 1, by omega, by omega, rfl, by go_num, x1⟩
              | true =>
                rw [hP] at c1
                rw [hP] at hKr
                clear hP
                go_wp2_with (at_builtin; refine wpList_append_own_at _ rfl _ _ 27 rfl H6 43 j0 (.agg #[.int .i64 0, .int .i64 0]) 2 16 Tryf.underlying27 hj hy0 hy1 hy2 rfl (by decide) _ _ _ rfl (x0.own.alloc _) ⟨wr.heap.size, 0, none⟩ 1 1 [.int .i64 ((a : Int) + 1), .int .i64 ((i : Int) + 1)] rfl rfl (cell_two_new _ _ _ _) (by simp [Value.oneCell']) (by unfold maxLen; omega) (by omega) (by simp; omega) ?_; intro v' w8 hown' hgrow _ hat; obtain ⟨g', cap', rfl⟩ := ownsRow_succ hown')
                have x1 := x0.push hown' hgrow (by omega)
                unfold Kept at hKr
                first | rw [if_pos trivial] at hKr | rw [if_pos rfl] at hKr
                rw [← hKr] at x1
                go_roundg (j - (i + 1))
                case measure => omega
                case rel => exact ⟨i + 1, by omega, by omega, rfl, by go_num, x1⟩
            · have hiz : ¬ ((i : Int) + 1 ≤ (j : Int)) := by omega
              obtain ⟨g21, c21, hv21⟩ := x0.form
              have x1 := x0
              have hij : i = j := by omega
              rw [hij, ← lexL_succ] at x1
              clear hij hv21
              clear x0
              go_wp2_with fail
              go_roundg (j - (a + 1))
              case measure => omega
              case rel => exact ⟨a + 1, by omega, rfl, by go_num, x1⟩
        · have haz : ¬ ((a : Int) + 1 ≤ (j : Int)) := by omega
          have haj : a = j := by omega
          rw [haj] at x0
          clear haj
          obtain ⟨g21, c21, rfl⟩ := x0.form
          have hblk : ∀ k, k < w3.heap.size → wr.heap[k]? = w3.heap[k]? := fun k hk => (x0.below.block k (by omega)).trans (hB36.block k hk)
          have hblk6 : ∀ k, k < H6 → wr.heap[k]? = w6.heap[k]? := fun k hk => x0.below.block k hk
          have vv := World.rowIs.of_block V.view (hblk bV V.view.lt)
          have v0 := vv.cell (i := 0) (by omega)
          have v1 := vv.cell (i := 1) (by omega)
          have v2 := vv.cell (i := 2) (by omega)
          have v3 := vv.cell (i := 3) (by omega)
          have v4 := vv.cell (i := 4) (by omega)
          simp only [Nat.succ_ne_zero, if_true, if_false, Nat.reduceEqDiff] at v0 v1 v2 v3 v4
          have i4 : IntsAt wr g4 (upE M j) := fun i hi => (World.cell?_of_block (a := ⟨g4, i, none⟩) (hblk g4 V.lt.1)).trans (V.alive i hi)
          have i5 : IntsAt wr g5 (upE (notB M) j) := fun i hi => (World.cell?_of_block (a := ⟨g5, i, none⟩) (hblk g5 V.lt.2.1)).trans (V.corrupt i hi)
          have i17 : IntsAt wr g17 (upE M j) := fun i hi => (World.cell?_of_block (a := ⟨g17, i, none⟩) (hblk6 g17 l17)).trans (o17 i hi)
          have i18 : IntsAt wr g18 (upE (notB M) j) := fun i hi => (World.cell?_of_block (a := ⟨g18, i, none⟩) (hblk6 g18 l18)).trans (o18 i hi)
          have pp : PairsAt wr g (lexL P j j) := fun i hi => by
            rw [← hpl] at hi ⊢
            obtain ⟨y1, y2⟩ := V.pairs i hi
            exact ⟨(World.cell?_of_block (a := ⟨g, i * 2, none⟩) (hblk g V.lt.2.2)).trans y1, (World.cell?_of_block (a := ⟨g, i * 2 + 1, none⟩) (hblk g V.lt.2.2)).trans y2⟩
          have pp21 : PairsAt wr g21 (lexL P j j) := pairs_of_holds (holds_of_owns x0.own)
          have hlp : pr.length = (lexL P j j).length := by
            rw [← hpl]
            simp [sortP]
          rw [hlp] at v4
          have mkf := (World.cell?_of_block (a := ⟨w4.heap.size, s + 1, none⟩) (hblk6 w4.heap.size (by omega))).trans mk6
          have hlL : (lexL P j j).length ≤ 1048576 := Nat.le_trans (lexL_len P j j) (Nat.mul_le_mul hn hn)
          have u4 := upE_length_le M j
          have u5 := upE_length_le (notB M) j
          have k14a : ∀ q, Calls Tryf.prog 14 #[.slice (some ⟨g4, 0, none⟩) (upE M j).length c4, .slice (some ⟨g17, 0, none⟩) (upE M j).length c17] (wr.drewN q) fun e w' => e = .returned (.bool true) ∧ ∃ k, w' = (wr.drewN q).drewN k := fun q => intsEq_any g4 g17 c4 c17 (upE M j) (wr.drewN q) (fun i hi => i4 i hi) (fun i hi => i17 i hi) (by omega)
          have k14b : ∀ q, Calls Tryf.prog 14 #[.slice (some ⟨g5, 0, none⟩) (upE (notB M) j).length c5, .slice (some ⟨g18, 0, none⟩) (upE (notB M) j).length c18] (wr.drewN q) fun e w' => e = .returned (.bool true) ∧ ∃ k, w' = (wr.drewN q).drewN k := fun q => intsEq_any g5 g18 c5 c18 (upE (notB M) j) (wr.drewN q) (fun i hi => i5 i hi) (fun i hi => i18 i hi) (by omega)
          have k15 : ∀ q, Calls Tryf.prog 15 #[.slice (some ⟨g, 0, none⟩) (lexL P j j).length cap, .slice (some ⟨g21, 0, none⟩) (lexL P j j).length c21] (wr.drewN q) fun e w' => e = .returned (.bool true) ∧ ∃ k, w' = (wr.drewN q).drewN k := fun q => pairsEq_any g g21 cap c21 (lexL P j j) (wr.drewN q) (fun i hi => pp i hi) (fun i hi => pp21 i hi) hlL
          have hsz : (s : Int) + 1 < (j : Int) + 1 := by omega
          have hBf : Below w.heap.size w wr := (hB3.trans (hB36.mono hs3)).trans (x0.below.mono (by omega))
          clear V x0 hlp hpl i4 i5 i17 i18 pp pp21 vv o17 o18 hpr6 mk6 hblk hblk6
          go_wp2_with fail
          refine Code.wp_mono ?cont (law31 s p j bV w4.heap.size g17 c17 g18 c18 g21 c21 g4 c4 g5 c5 g cap (upE M j) (upE (notB M) j) (lexL P j j) (M s) wr hsz v0 v1 v2 v3 v4 mkf k14a k14b k15 _ _ _ _ _ _ _ _ _ _ _ _ _ _ _ _ _ _ _ _ _ _ _ _ _ _ _ _ _ _ _ _ _ _ _ _ _ _ _ _ _ _ _ _ _ _ _ _ _ _ _ _ _ _ _ _ _ _ _ _ _ _ _ _ _ _ _ _ _ _ _ _ _ _ _ _ _ _ _ _ _ _ _ _ _ _ _ _ _ _ _ _ _ _ _ _ _ _ _ _ _ _ _ _ _ _ _ _ _ _ _ _ _ _ _ _ _ _ _ _ _ _ _ _ _ _ _ _ _ _ _ _ _ _ _ _ _ _ _ _ _ _ _ _ _ _ _ _ _ _ _ _ _ _ _ _ _ _ _ _ _ _ _ _ _ _ _ _ _ _ _ _ _ _ _ _ _ _ _ _ _ _ _ _ _ _ _ _ _)
          case cont =>
            intro e ac V hV
            obtain ⟨rfl, z133, z134, z135, z136, z137, z138, z139, z140, z141, z142, z143, z144, z145, z146, z147, z148, z149, z150, z151, z152, z153, z154, z155, z156, z157, z158, z159, z160, z161, z162, z163, z164, z165, z166, z167, z168, z169, z170, z171, z172, z173, z174, z175, z176, z177, z178, z179, z180, z181, z182, z183, z184, z185, z186, z187, z188, z189, z190, z191, z192, z193, z194, z195, qq, rfl, rfl⟩ := hV
            dsimp only
            go_wp2_with fail
            go_ret
            exact ⟨rfl, below_drewN hBf qq⟩

end Go.Proofs.Qxb6615834aFmt
