/-
  ZZlearn and learnRuns walked.
-/
import Derived.Test.Qxb6616089aLearn
namespace Go.Proofs.Qxb6616089a
open Go.RowKit Go.Maps

theorem Try.info71 : (Try.prog.info? 71).map (fun i => (i.zero, i.size, i.bytes)) = some (some (.agg #[.int .i64 0, .int .u64 0, .int .u64 0]), 3, 24) := by kernel_rfl

theorem run_make_runs (n : Nat) (hn : n ≤ 65536) (w : World) :
    (Instr.makeSlice 67 (.int .i64 n) (.int .i64 n)).run Try.prog w = .ok (.slice (some ⟨w.heap.size, 0, none⟩) n n) (w.alloc (.cells (madeCells #[.int .i64 0, .int .u64 0, .int .u64 0] (n * 3)) 71)) := by
  obtain ⟨i, hi, hzz⟩ := Option.map_eq_some_iff.1 Try.info71
  simp only [Prod.mk.injEq] at hzz
  obtain ⟨hz, hs, hb⟩ := hzz
  have := run_make (P := Try.prog) w 67 71 i _ Try.underlying67 hi hz .i64 .i64 n n (by omega) (by omega) (by rw [hb]; omega) (by omega)
  rw [hs, Int.toNat_natCast] at this
  exact this

def tripC (f0 f1 f2 : Nat → Value) (k : Nat) : Value := if k % 3 = 0 then f0 (k / 3) else if k % 3 = 1 then f1 (k / 3) else f2 (k / 3)
def fill3 (f0 f1 f2 : Nat → Value) (i k : Nat) : Value := if k < i * 3 then tripC f0 f1 f2 k else if k % 3 = 0 then .int .i64 0 else .int .u64 0
theorem fill3_0 (f0 f1 f2 : Nat → Value) {i m : Nat} (h : i < m) : fill3 f0 f1 f2 m (i * 3) = f0 i := by
  unfold fill3 tripC
  rw [if_pos (by omega), if_pos (by omega), show i * 3 / 3 = i by omega]
theorem fill3_1 (f0 f1 f2 : Nat → Value) {i m : Nat} (h : i < m) : fill3 f0 f1 f2 m (i * 3 + 1) = f1 i := by
  unfold fill3 tripC
  rw [if_pos (by omega), if_neg (by omega), if_pos (by omega), show (i * 3 + 1) / 3 = i by omega]
theorem fill3_2 (f0 f1 f2 : Nat → Value) {i m : Nat} (h : i < m) : fill3 f0 f1 f2 m (i * 3 + 2) = f2 i := by
  unfold fill3 tripC
  rw [if_pos (by omega), if_neg (by omega), if_neg (by omega), show (i * 3 + 2) / 3 = i by omega]
theorem fill3_trips {w : World} {b t n : Nat} {f0 f1 f2 : Nat → Value} (h : w.rowIs b t (n * 3) (fill3 f0 f1 f2 n)) : TripAt w b 0 n f0 f1 f2 :=
  ⟨fun i hi => by rw [Nat.zero_add, h.cell (by omega), fill3_0 _ _ _ hi], fun i hi => by rw [Nat.zero_add, h.cell (by omega), fill3_1 _ _ _ hi], fun i hi => by rw [Nat.zero_add, h.cell (by omega), fill3_2 _ _ _ hi]⟩
theorem fill3_step {w : World} {b t n i : Nat} {f0 f1 f2 : Nat → Value} (h : w.rowIs b t (n * 3) (fill3 f0 f1 f2 i)) :
    (((w.setCell ⟨b, i * 3, none⟩ (f0 i)).setCell ⟨b, i * 3 + 1, none⟩ (f1 i)).setCell ⟨b, i * 3 + 2, none⟩ (f2 i)).rowIs b t (n * 3) (fill3 f0 f1 f2 (i + 1)) := by
  refine (((h.set (i * 3) _).set (i * 3 + 1) _).set (i * 3 + 2) _).congr (fun k hk => ?_)
  by_cases e2 : k = i * 3 + 2
  · subst e2; simp only [if_true]; exact (fill3_2 _ _ _ (Nat.lt_succ_self i)).symm
  · rw [if_neg e2]
    by_cases e1 : k = i * 3 + 1
    · subst e1; simp only [if_true]; exact (fill3_1 _ _ _ (Nat.lt_succ_self i)).symm
    · rw [if_neg e1]
      by_cases e0 : k = i * 3
      · subst e0; simp only [if_true]; exact (fill3_0 _ _ _ (Nat.lt_succ_self i)).symm
      · rw [if_neg e0]
        unfold fill3
        by_cases h3 : k < i * 3
        · rw [if_pos h3, if_pos (by omega)]
        · rw [if_neg h3, if_neg (show ¬ k < (i + 1) * 3 by omega)]
theorem fill3_made (w : World) (n : Nat) (f0 f1 f2 : Nat → Value) : (w.alloc (.cells (madeCells #[.int .i64 0, .int .u64 0, .int .u64 0] (n * 3)) 71)).rowIs w.heap.size 71 (n * 3) (fill3 f0 f1 f2 0) :=
  ⟨_, Deep.blk_alloc_new _ _, size_madeCells _ _, fun i hi => by
    simp only [madeCells, Array.getElem?_map, Array.getElem?_range, hi, if_true, Option.map_some, fill3, Nat.zero_mul, Nat.not_lt_zero, if_false]
    have : i % 3 = 0 ∨ i % 3 = 1 ∨ i % 3 = 2 := by omega
    rcases this with h | h | h <;> simp [h]⟩

set_option maxHeartbeats 1000000 in
theorem zzlearn_any (r B : Nat) (nx ps first frm : Int) (k0 : Nat) (D : DataW Unit) (sb qb cb n : Nat) (RS RQ : Nat → Int) (C : Nat → Nat) (PA : Option Addr) (pn pc : Nat) (w : World)
    (hn : n ≤ 65536) (hk0 : k0 ≤ 65536) (htot : csum C n ≤ 65536) (hfw : (Lit.int .u64 first).wf = true)
    (hO : OrdAt w r B nx ps k0 D) (hS : w.rowIs sb 3 n (fun i => .int .i64 (RS i))) (hQ : w.rowIs qb 24 n (fun i => .int .u64 (RQ i))) (hC : w.rowIs cb 24 n (fun i => .int .u64 (C i))) :
    Calls Try.prog 24 #[.pointer (some ⟨r, 0, none⟩), .int .u64 first, .int .u64 frm, .slice (some ⟨sb, 0, none⟩) n n, .slice (some ⟨qb, 0, none⟩) n n, .slice (some ⟨cb, 0, none⟩) n n, .slice PA pn pc] w fun e w' =>
      e = .returned (.int .u64 (numK first (csum C n))) ∧ Turn w w' r B ∧ OrdAt w' r B nx (passTo frm ps (numK first (csum C n))) (k0 + csum C n) (lm D (numK first) (msgS RS RQ C n) (msgQ RS RQ C n) nx (csum C n)) := by
  have hlt := hO.lt
  have hsb := hS.lt
  have hqb := hQ.lt
  have hcb := hC.lt
  have hmk := run_make_runs n hn
  go_enter Try.func24, Try.ntmps24
  go_wp2
  clear hmk
  have hB0 : Below w.heap.size w ((w.alloc (.cells #[.int .u64 first, .int .u64 frm, .slice (some ⟨w.heap.size + 1, 0, none⟩) n n, .slice PA pn pc] 69)).alloc (.cells (madeCells #[.int .i64 0, .int .u64 0, .int .u64 0] (n * 3)) 71)) :=
    ((Below.refl _ _).alloc (Nat.le_refl _) _).alloc (by simp) _
  have hr0 := fill3_made (w.alloc (.cells #[.int .u64 first, .int .u64 frm, .slice (some ⟨w.heap.size + 1, 0, none⟩) n n, .slice PA pn pc] 69)) n (fun j => .int .i64 (RS j)) (fun j => .int .u64 (RQ j)) (fun j => .int .u64 (C j))
  rw [Deep.nblk_alloc] at hr0
  have ha0 : ((w.alloc (.cells #[.int .u64 first, .int .u64 frm, .slice (some ⟨w.heap.size + 1, 0, none⟩) n n, .slice PA pn pc] 69)).alloc (.cells (madeCells #[.int .i64 0, .int .u64 0, .int .u64 0] (n * 3)) 71)).heap[w.heap.size]? = some (.cells #[.int .u64 first, .int .u64 frm, .slice (some ⟨w.heap.size + 1, 0, none⟩) n n, .slice PA pn pc] 69) := by
    rw [Deep.blk_alloc_lt _ _ _ (by simp)]; exact Deep.blk_alloc_new _ _
  go_loopg [28] n (fun g x wr => ∃ i : Nat, i ≤ n ∧ g = n - i ∧ x = .int .i64 i ∧ Below w.heap.size w wr ∧ wr.heap[w.heap.size]? = some (.cells #[.int .u64 first, .int .u64 frm, .slice (some ⟨w.heap.size + 1, 0, none⟩) n n, .slice PA pn pc] 69) ∧ wr.rowIs (w.heap.size + 1) 71 (n * 3) (fill3 (fun j => .int .i64 (RS j)) (fun j => .int .u64 (RQ j)) (fun j => .int .u64 (C j)) i))
  case atStart => exact ⟨0, Nat.zero_le _, rfl, rfl, hB0, ha0, hr0⟩
  case round =>
    clear hB0 hr0 ha0
    obtain ⟨i, hi, rfl, rfl, hB, ha, hr⟩ := hrel
    by_cases hin : i < n
    · have hz : (i : Int) < (n : Int) := by omega
      have c1 : wr.cell? ⟨sb, i, none⟩ = some (.int .i64 (RS i)) := by rw [hB.cell (p := ⟨sb, i, none⟩) hsb]; exact hS.cell hin
      have c2 : wr.cell? ⟨qb, i, none⟩ = some (.int .u64 (RQ i)) := by rw [hB.cell (p := ⟨qb, i, none⟩) hqb]; exact hQ.cell hin
      have c3 : wr.cell? ⟨cb, i, none⟩ = some (.int .u64 (C i)) := by rw [hB.cell (p := ⟨cb, i, none⟩) hcb]; exact hC.cell hin
      have c4 : wr.cell? ⟨w.heap.size, 2, none⟩ = some (.slice (some ⟨w.heap.size + 1, 0, none⟩) n n) := by simp [World.cell?, ha]
      have d1 : wr.cell? ⟨w.heap.size + 1, i * 3, none⟩ = some _ := hr.cell (by omega)
      have d2 : wr.cell? ⟨w.heap.size + 1, i * 3 + 1, none⟩ = some _ := hr.cell (by omega)
      have d3 : wr.cell? ⟨w.heap.size + 1, i * 3 + 2, none⟩ = some _ := hr.cell (by omega)
      have f1 := hr.frozen (i * 3)
      have f2 := hr.frozen (i * 3 + 1)
      have f3 := hr.frozen (i * 3 + 2)
      have k1 : ∀ u v x, (((wr.setCell ⟨w.heap.size + 1, i * 3, none⟩ u).setCell ⟨w.heap.size + 1, i * 3 + 1, none⟩ v).setCell ⟨w.heap.size + 1, i * 3 + 2, none⟩ x).cell? ⟨sb, i, none⟩ = some (.int .i64 (RS i)) := fun u v x => far1 (by omega) (far1 (by omega) (far1 (by omega) c1 u) v) x
      have k2 : ∀ u v x, (((wr.setCell ⟨w.heap.size + 1, i * 3, none⟩ u).setCell ⟨w.heap.size + 1, i * 3 + 1, none⟩ v).setCell ⟨w.heap.size + 1, i * 3 + 2, none⟩ x).cell? ⟨qb, i, none⟩ = some (.int .u64 (RQ i)) := fun u v x => far1 (by omega) (far1 (by omega) (far1 (by omega) c2 u) v) x
      have k3 : ∀ u v x, (((wr.setCell ⟨w.heap.size + 1, i * 3, none⟩ u).setCell ⟨w.heap.size + 1, i * 3 + 1, none⟩ v).setCell ⟨w.heap.size + 1, i * 3 + 2, none⟩ x).cell? ⟨cb, i, none⟩ = some (.int .u64 (C i)) := fun u v x => far1 (by omega) (far1 (by omega) (far1 (by omega) c3 u) v) x
      have k4 : ∀ u v x, (((wr.setCell ⟨w.heap.size + 1, i * 3, none⟩ u).setCell ⟨w.heap.size + 1, i * 3 + 1, none⟩ v).setCell ⟨w.heap.size + 1, i * 3 + 2, none⟩ x).cell? ⟨w.heap.size, 2, none⟩ = some (.slice (some ⟨w.heap.size + 1, 0, none⟩) n n) := fun u v x => far1 (by omega) (far1 (by omega) (far1 (by omega) c4 u) v) x
      go_wp2_with fail
      go_region_held3 (fun w' => w'.cell? ⟨sb, i, none⟩ = some (.int .i64 (RS i)) ∧ w'.cell? ⟨qb, i, none⟩ = some (.int .u64 (RQ i)) ∧ w'.cell? ⟨cb, i, none⟩ = some (.int .u64 (C i)) ∧ w'.cell? ⟨w.heap.size, 2, none⟩ = some (.slice (some ⟨w.heap.size + 1, 0, none⟩) n n)) (go_keep) (fail)
      all_goals go_wp2
      all_goals
        go_roundg (n - (i + 1))
        case measure => go_light; omega
        case rel =>
          go_light
          have h4 := fill3_step hr
          refine ⟨i + 1, by omega, rfl, by go_num, (((hB.setCell (Nat.le_succ _) _).setCell (Nat.le_succ _) _).setCell (Nat.le_succ _) _).drew, ?_, h4.drew⟩
          show (((wr.setCell ⟨w.heap.size + 1, i * 3, none⟩ _).setCell ⟨w.heap.size + 1, i * 3 + 1, none⟩ _).setCell ⟨w.heap.size + 1, i * 3 + 2, none⟩ _).heap[w.heap.size]? = _
          rw [Deep.blk_setCell_other _ _ _ _ (by simp), Deep.blk_setCell_other _ _ _ _ (by simp), Deep.blk_setCell_other _ _ _ _ (by simp)]
          exact ha
    · have e : n = i := by omega
      subst e
      have a0 : wr.cell? ⟨w.heap.size, 0, none⟩ = some (.int .u64 first) := by simp [World.cell?, ha]
      have a1 : wr.cell? ⟨w.heap.size, 1, none⟩ = some (.int .u64 frm) := by simp [World.cell?, ha]
      have a2 : wr.cell? ⟨w.heap.size, 2, none⟩ = some (.slice (some ⟨w.heap.size + 1, 0, none⟩) n n) := by simp [World.cell?, ha]
      have a3 : wr.cell? ⟨w.heap.size, 3, none⟩ = some (.slice PA pn pc) := by simp [World.cell?, ha]
      go_wp2_with (go_at_call 25; refine (learn_any r B nx ps first frm k0 D _ n RS RQ C PA pn pc _ hn hk0 htot hfw (by omega) (by omega) (hO.keep hB) (fill3_trips hr)).mono ?_; rintro e w' ⟨rfl, ht, ho⟩)
      go_ret
      exact ⟨rfl, (turn_of_below hB r B).trans ht, ho⟩

end Go.Proofs.Qxb6616089a
