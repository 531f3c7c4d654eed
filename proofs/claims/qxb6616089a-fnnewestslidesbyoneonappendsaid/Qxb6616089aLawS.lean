/-
  The law FnNewestSlidesByOneOnAppend: the walk.
-/
import Derived.Test.Qxb6616089aLawN
namespace Go.Proofs.Qxb6616089a
open Go.RowKit

set_option maxHeartbeats 1000000 in
theorem lawS_any (A : Option Addr) (b off n cap : Nat) (F L : Nat → Int) (p q : Int) (w : World)
    (hA : 0 < n → A = some ⟨b, off, none⟩) (hR : RangesAt w b off n F L) (hnil : A = none → n = 0 ∧ cap = 0) :
    Calls Try.prog 4 #[.slice A n cap, .agg #[.int .u64 p, .int .u64 q]] w fun e w' => e = .returned (.bool true) ∧ Below w.heap.size w w' := by
  go_enter Try.func4, Try.ntmps4
  go_wp2_with fail
  refine (bytes11_any A n cap p q _).mono ?_
  rintro e w0 ⟨⟨bv, rfl⟩, hb0⟩
  have hB0 : Below w.heap.size w w0 := below2 ((Below.refl _ _).alloc (Nat.le_refl _) _) hb0
  have hsz : w.heap.size < w0.heap.size := by have := hb0.size; simp at this; omega
  have p1 : w0.cell? ⟨w.heap.size, 0, none⟩ = some (.int .u64 p) := by rw [hb0.cell (p := ⟨w.heap.size, 0, none⟩) (by simp)]; simp
  have p2 : w0.cell? ⟨w.heap.size, 1, none⟩ = some (.int .u64 q) := by rw [hb0.cell (p := ⟨w.heap.size, 1, none⟩) (by simp)]; simp
  have hRw := hR.keep hB0
  clear hb0 hR
  cases bv
  · go_wp2_with fail
    go_ret
    exact ⟨rfl, hB0⟩
  by_cases h1 : (32768 : Int) < (n : Int)
  · go_wp2_with fail
    go_ret
    exact ⟨rfl, hB0⟩
  have hmk := run_make_pairs Try.underlying22 Try.info26 0 ((n : Int) + 1) (by omega) (by omega) (by omega)
  rw [show ((n : Int) + 1).toNat = n + 1 by omega, show (0 : Int).toNat = 0 by rfl] at hmk
  go_wp2_with fail
  clear hmk
  go_loopg [5, 6] n (fun g v x wr => ∃ (i gb c : Nat), i ≤ n ∧ g = n - i ∧ x = .int .i64 i ∧ v = .slice (some ⟨gb, 0, none⟩) i c ∧ Below w0.heap.size w0 wr ∧ w0.heap.size ≤ gb ∧ wr.ownsRow w0.heap.size 26 2 (.slice (some ⟨gb, 0, none⟩) i c) i (flatR (glue n F (fun _ => p)) (glue n L (fun _ => q)) i))
  case atStart => exact ⟨0, _, _, Nat.zero_le _, rfl, rfl, rfl, (Below.refl _ _).alloc (Nat.le_refl _) _, Nat.le_refl _, World.ownsRow_made w0 _ (n + 1) (Nat.le_refl _) (by unfold maxLen; omega) (size_madeCells _ _)⟩
  case round =>
    obtain ⟨i, gb, c, hi, rfl, rfl, rfl, hB, hgb, hown⟩ := hrel
    by_cases hlt : i < n
    · obtain rfl := hA (by omega)
      clear hA
      have hz : (i : Int) < (n : Int) := by omega
      have hRx := hRw.keep hB
      have c1 := hRx.first i hlt
      have c2 := hRx.last i hlt
      clear hRx
      go_wp2_with (at_builtin; refine wpList_append_pair _ rfl _ _ rfl w0.heap.size gb i c _ rfl (hown.alloc _) wr.heap.size (F i) (L i) rfl (heap_alloc_new wr _) (by omega) (by have := hB.size; simp; omega) ?_; intro g' c' w1 hown1 hgrow)
      go_roundg (n - (i + 1))
      case measure => go_light; omega
      case rel =>
        go_light
        refine ⟨i + 1, g', c', by omega, rfl, by go_num, by go_num, Below.append hB _ hgrow hgb, (hown1.lt g' rfl).1, ?_⟩
        rw [flatR, glue_lt hlt, glue_lt hlt]
        exact hown1
    · have e : n = i := by omega
      subst e
      clear hlt hi
      have p1' : wr.cell? ⟨w.heap.size, 0, none⟩ = some (.int .u64 p) := by rw [hB.cell (p := ⟨w.heap.size, 0, none⟩) hsz]; exact p1
      have p2' : wr.cell? ⟨w.heap.size, 1, none⟩ = some (.int .u64 q) := by rw [hB.cell (p := ⟨w.heap.size, 1, none⟩) hsz]; exact p2
      clear p1 p2
      go_wp2_with (first | (at_builtin; refine wpList_append_pair _ rfl _ _ rfl w0.heap.size gb n c _ rfl (hown.alloc _) wr.heap.size p q rfl (heap_alloc_new wr _) (by omega) (by have := hB.size; simp; omega) ?_; intro g' c' w1 hown1 hgrow) | fail)
      have hB1 := Below.append hB _ hgrow hgb
      have hRj : RangesAt w1 g' 0 (n + 1) (glue n F (fun _ => p)) (glue n L (fun _ => q)) := by
        refine owns_ranges (cap := c') (base := w0.heap.size) ?_
        rw [flatR, show glue n F (fun _ => p) n = p from glue_ge (i := 0), show glue n L (fun _ => q) n = q from glue_ge (i := 0)]
        exact hown1
      clear hown hown1 hgrow hB
      refine (buildRanges_any A b off n cap F L _ (by omega) hA hnil (hRw.keep hB1)).mono ?_
      rintro e w2 ⟨B1, g1, rfl, hBB1, hb2, hR1⟩
      go_wp2_with fail
      refine (zznewest_any B1 g1 n _ (by omega) hBB1).mono ?_
      rintro e w3 ⟨C1, rfl, hC1, rfl⟩
      go_wp2_with fail
      refine (buildRanges_any (some ⟨g', 0, none⟩) g' 0 (n + 1) c' _ _ _ (by omega) (fun _ => rfl) (fun h => by cases h) (hRj.keep hb2)).mono ?_
      rintro e w4 ⟨B2, g2, rfl, hBB2, hb4, hR2⟩
      obtain rfl := hBB2 (by omega)
      have hk4 : 0 < keep (n + 1) := by unfold keep; omega
      go_wp2_with fail
      refine (zznewest_any _ g2 (n + 1) _ (by omega) (fun _ => rfl)).mono ?_
      rintro e w5 ⟨C2, rfl, hC2, rfl⟩
      obtain rfl := hC2 hk4
      have hd1 := (hR1.keep hb4).drop (k := n - keep n)
      have hd2 := hR2.drop (k := n + 1 - keep (n + 1))
      have ek1 : n - (n - keep n) = keep n := by unfold keep; omega
      have ek2 : n + 1 - (n + 1 - keep (n + 1)) = keep (n + 1) := by unfold keep; omega
      rw [ek1, Nat.zero_add] at hd1
      rw [ek2, Nat.zero_add] at hd2
      have hRx := (hRw.keep hB1).keep (below2 hb2 hb4)
      have hRj := hRj.keep (below2 hb2 hb4)
      have hB5 : Below w.heap.size w w5 := below2 hB0 (below2 hB1 (below2 hb2 hb4))
      have hk1 : keep (n + 1) ≤ keep n + 1 := by unfold keep; omega
      have hk2 : keep (n + 1) ≤ n + 1 := by unfold keep; omega
      have hk3 : keep n ≤ n := by unfold keep; omega
      clear ek1 ek2 hb2 hb4 hR1 hR2 hBB1 hBB2 hB1 hB0 hC2
      go_wp2_with fail
      refine (isNewest_any C1 A g1 _ _ b off n cap F L _ (by omega) hC1 hd1 hA hRx).mono ?_
      rintro e w6 ⟨rfl, hb6⟩
      go_wp2_with fail
      refine (isNewest_any _ (some ⟨g', 0, none⟩) g2 _ _ g' 0 (n + 1) c' _ _ _ (by omega) (fun _ => rfl) (hd2.keep hb6) (fun _ => rfl) (hRj.keep hb6)).mono ?_
      rintro e w7 ⟨rfl, hb7⟩
      have hB7 := below2 (below2 hB5 hb6) hb7
      have he1 := (hd1.keep hb6).keep hb7
      have he2 := (hd2.keep hb6).keep hb7
      clear hd1 hd2 hRj hRx hB5 hb6 hb7
      go_wp2_with fail
      go_loopg [10] (keep (n + 1)) (fun g x wx => ∃ i : Nat, i + 1 ≤ keep (n + 1) ∧ g = keep (n + 1) - i ∧ x = .int .i64 i ∧ Below w.heap.size w wx ∧ Below w7.heap.size w7 wx)
      case atStart => exact ⟨0, hk4, rfl, rfl, hB7, Below.refl _ _⟩
      case round =>
        clear hB7
        obtain ⟨i, hi, rfl, rfl, hBx, hBy⟩ := hrel
        by_cases hlt : i + 1 < keep (n + 1)
        · have hz : (i : Int) < (keep (n + 1) : Int) - 1 := by omega
          go_wp2_with fail
          rw [show ((keep n : Int) - ((keep (n + 1) : Int) - 1) + (i : Int)) = ((keep n + 1 - keep (n + 1) + i : Nat) : Int) by omega]
          refine (sameRange_any _ C1 g2 _ (keep (n + 1)) _ g1 _ (keep n) _ _ _ _ _ i (keep n + 1 - keep (n + 1) + i) _ (by omega) (by omega) (fun _ => rfl) (he2.keep hBy) (by omega) hC1 (he1.keep hBy) (by omega) (by simp only [beq_iff_eq]; rw [glue_lt (by omega), show n - keep n + (keep n + 1 - keep (n + 1) + i) = n + 1 - keep (n + 1) + i by omega]) (by simp only [beq_iff_eq]; rw [glue_lt (by omega), show n - keep n + (keep n + 1 - keep (n + 1) + i) = n + 1 - keep (n + 1) + i by omega])).mono ?_
          rintro e w8 ⟨rfl, hb8⟩
          go_wp2_with fail
          go_roundg (keep (n + 1) - (i + 1))
          case measure => go_light; omega
          case rel => go_light; exact ⟨i + 1, by omega, rfl, by go_num, below2 hBx hb8, below2 hBy hb8⟩
        · have hz : ¬ ((i : Int) < (keep (n + 1) : Int) - 1) := by omega
          go_wp2_with fail
          go_ret
          exact ⟨rfl, hBx⟩

end Go.Proofs.Qxb6616089a
