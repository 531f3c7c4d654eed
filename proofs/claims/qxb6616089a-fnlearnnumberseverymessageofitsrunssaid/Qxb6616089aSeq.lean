/-
  ZZseqRanges walked.
-/
import Derived.Test.Qxb6616089aBase
namespace Go.Proofs.Qxb6616089a
open Go.RowKit

def pairC (F L : Nat → Int) (k : Nat) : Value := if k % 2 = 0 then .int .u64 (F (k / 2)) else .int .u64 (L (k / 2))
def fillTo (F L : Nat → Int) (i k : Nat) : Value := if k < i * 2 then pairC F L k else .int .u64 0

theorem fill_first (F L : Nat → Int) {i m : Nat} (h : i < m) : fillTo F L m (i * 2) = .int .u64 (F i) := by
  unfold fillTo pairC
  rw [if_pos (by omega), if_pos (by omega), show i * 2 / 2 = i by omega]
theorem fill_last (F L : Nat → Int) {i m : Nat} (h : i < m) : fillTo F L m (i * 2 + 1) = .int .u64 (L i) := by
  unfold fillTo pairC
  rw [if_pos (by omega), if_neg (by omega), show (i * 2 + 1) / 2 = i by omega]

theorem fill_ranges {w : World} {b t n : Nat} {F L : Nat → Int} (h : w.rowIs b t (n * 2) (fillTo F L n)) : RangesAt w b 0 n F L :=
  ⟨fun i hi => by rw [Nat.zero_add, h.cell (by omega), fill_first F L hi], fun i hi => by rw [Nat.zero_add, h.cell (by omega), fill_last F L hi]⟩

theorem fill_step {w : World} {b t n i : Nat} {F L : Nat → Int} (h : w.rowIs b t (n * 2) (fillTo F L i)) :
    ((w.setCell ⟨b, i * 2, none⟩ (.int .u64 (F i))).setCell ⟨b, i * 2 + 1, none⟩ (.int .u64 (L i))).rowIs b t (n * 2) (fillTo F L (i + 1)) := by
  refine ((h.set (i * 2) _).set (i * 2 + 1) _).congr (fun k hk => ?_)
  by_cases e1 : k = i * 2 + 1
  · subst e1; simp only [if_true]; exact (fill_last F L (Nat.lt_succ_self i)).symm
  · rw [if_neg e1]
    by_cases e2 : k = i * 2
    · subst e2; simp only [if_true]; exact (fill_first F L (Nat.lt_succ_self i)).symm
    · rw [if_neg e2]
      unfold fillTo
      by_cases h3 : k < i * 2
      · rw [if_pos h3, if_pos (by omega)]
      · rw [if_neg h3, if_neg (by omega)]

set_option maxHeartbeats 1000000 in
theorem seqRanges_nil (w : World) :
    Calls Try.prog 20 #[.slice none 0 0, .slice none 0 0] w fun e w' => e = .returned (.slice none 0 0) ∧ w' = w := by
  have hq := fun (v : Option Addr) (n c n' c' : Nat) (wx : World) => Lib.run_eql_slice_nil (P := Try.prog) wx 35 24 v n c n' c' Try.underlying35
  go_enter Try.func20, Try.ntmps20
  go_wp2
  go_ret
  exact ⟨rfl, rfl⟩

set_option maxHeartbeats 1000000 in
theorem seqRanges_any (fb lb n : Nat) (F L : Nat → Int) (w : World) (hn : n ≤ 65536) (hF : w.rowIs fb 24 n (fun i => .int .u64 (F i))) (hL : w.rowIs lb 24 n (fun i => .int .u64 (L i))) :
    Calls Try.prog 20 #[.slice (some ⟨fb, 0, none⟩) n n, .slice (some ⟨lb, 0, none⟩) n n] w fun e w' => e = .returned (.slice (some ⟨w.heap.size, 0, none⟩) n n) ∧ Below w.heap.size w w' ∧ RangesAt w' w.heap.size 0 n F L := by
  have hq := fun (v : Option Addr) (n c n' c' : Nat) (wx : World) => Lib.run_eql_slice_nil (P := Try.prog) wx 35 24 v n c n' c' Try.underlying35
  have hmk := run_make_pairs Try.underlying27 Try.info66 (n : Int) n (by omega) (by omega) (by omega)
  rw [Int.toNat_natCast] at hmk
  have hfb := hF.lt
  have hlb := hL.lt
  go_enter Try.func20, Try.ntmps20
  go_wp2
  clear hmk hq
  go_loopg [14] n (fun g x wr => ∃ i : Nat, i ≤ n ∧ g = n - i ∧ x = .int .i64 i ∧ Below w.heap.size w wr ∧ wr.rowIs w.heap.size 66 (n * 2) (fillTo F L i))
  case atStart => exact ⟨0, Nat.zero_le _, rfl, rfl, (Below.refl _ _).alloc (Nat.le_refl _) _, (rowIs_pairs w (n * 2) 66).congr (fun k _ => by simp [fillTo])⟩
  case round =>
    obtain ⟨i, hi, rfl, rfl, hB, hR⟩ := hrel
    by_cases hlt : i < n
    · have hz : (i : Int) < (n : Int) := by omega
      have c1 : wr.cell? ⟨fb, i, none⟩ = some (.int .u64 (F i)) := by rw [hB.cell (p := ⟨fb, i, none⟩) hfb]; exact hF.cell hlt
      have c2 : wr.cell? ⟨lb, i, none⟩ = some (.int .u64 (L i)) := by rw [hB.cell (p := ⟨lb, i, none⟩) hlb]; exact hL.cell hlt
      have d1 : wr.cell? ⟨w.heap.size, i * 2, none⟩ = some _ := hR.cell (by omega)
      have d2 : wr.cell? ⟨w.heap.size, i * 2 + 1, none⟩ = some _ := hR.cell (by omega)
      have f1 := hR.frozen (i * 2)
      have f2 := hR.frozen (i * 2 + 1)
      have k1 : ∀ u v, ((wr.setCell ⟨w.heap.size, i * 2, none⟩ u).setCell ⟨w.heap.size, i * 2 + 1, none⟩ v).cell? ⟨fb, i, none⟩ = some (.int .u64 (F i)) := fun u v => by
        rw [World.cell?_setCell_other _ _ _ _ (fun e => by have := congrArg Addr.block e; simp at this; omega), World.cell?_setCell_other _ _ _ _ (fun e => by have := congrArg Addr.block e; simp at this; omega)]; exact c1
      have k2 : ∀ u v, ((wr.setCell ⟨w.heap.size, i * 2, none⟩ u).setCell ⟨w.heap.size, i * 2 + 1, none⟩ v).cell? ⟨lb, i, none⟩ = some (.int .u64 (L i)) := fun u v => by
        rw [World.cell?_setCell_other _ _ _ _ (fun e => by have := congrArg Addr.block e; simp at this; omega), World.cell?_setCell_other _ _ _ _ (fun e => by have := congrArg Addr.block e; simp at this; omega)]; exact c2
      go_wp2_with fail
      go_region_held3 (fun w' => w'.cell? ⟨fb, i, none⟩ = some (.int .u64 (F i)) ∧ w'.cell? ⟨lb, i, none⟩ = some (.int .u64 (L i))) (go_keep) (fail)
      all_goals go_wp2
      all_goals
        go_roundg (n - (i + 1))
        case measure => go_light; omega
        case rel => go_light; exact ⟨i + 1, by omega, rfl, by go_num, ((hB.setCell (Nat.le_refl _) _).setCell (Nat.le_refl _) _).drew, (fill_step hR).drew⟩
    · go_wp2
      have e : i = n := by omega
      subst e
      go_ret
      exact ⟨rfl, hB, fill_ranges hR⟩

end Go.Proofs.Qxb6616089a
