/-
  zzBuildCasts: the walk.
-/
import Derived.Test.Qxb6615834aBuild
namespace Go.Proofs.Qxb6615834a
open Go.RowKit

/-- what holds at the inner loop's head, while cast c is made -/
structure InnerAt (w w0 wx : World) (n c sb j : Nat) (RL : Nat → Nat) (S : Nat → Nat → ByteArray) : Prop where
  below : Below w.heap.size w wx
  kept : ∀ k, w.heap.size ≤ k → k < w0.heap.size → wx.heap[k]? = w0.heap[k]?
  second : SecondTo wx sb (RL c - 1) j (S c)
  size : sb < wx.heap.size

theorem innerAt_step {w w0 wx : World} {n c sb j : Nat} {RL : Nat → Nat} {S : Nat → Nat → ByteArray} (h : InnerAt w w0 wx n c sb j RL S) (hw : w.heap.size ≤ sb) (h0 : w0.heap.size ≤ sb) :
    InnerAt w w0 ((wx.alloc (instObj (S c (j + 1)))).setCell ⟨sb, j, none⟩ (.pointer (some ⟨wx.heap.size, 0, none⟩))) n c sb (j + 1) RL S :=
  ⟨(h.below.alloc h.below.size _).setCell hw _,
   fun k h1 h2 => by
     have := h.size
     rw [Deep.blk_setCell_other _ _ _ _ (by show k ≠ sb; omega), Deep.blk_alloc_lt _ _ _ (by omega)]; exact h.kept k h1 h2,
   secondTo_step h.second, by have := h.size; simp; omega⟩

set_option maxHeartbeats 1000000 in
theorem buildCasts_any (A : Option Addr) (b off n cap : Nat) (RL RC RB RO : Nat → Nat) (S : Nat → Nat → ByteArray) (w : World)
    (hn : n ≤ 32768) (hL : ∀ i, i < n → 0 < RL i ∧ RL i ≤ 65536) (hA : 0 < n → A = some ⟨b, off, none⟩) (hN : NamesAt w b off n RL RC RB RO S) :
    Calls Try.prog 8 #[.slice A n cap] w fun e w' => e = .returned (.slice (some ⟨w.heap.size, 0, none⟩) n n) ∧ Below w.heap.size w w' ∧ CastsTo w' w.heap.size n n RL S := by
  obtain ⟨hrow, hat, hfit⟩ := hN
  have hmk := run_make_row' (P := Try.prog) 28 34 (.pointer none) 8 Try.underlying28 Try.info34 rfl .i64 .i64 n (by omega) (by omega)
  go_enter Try.func8, Try.ntmps8
  go_wp2
  clear hmk
  go_loopg [13] n (fun g i wr => ∃ c : Nat, c ≤ n ∧ g = n - c ∧ i = .int .i64 c ∧ Below w.heap.size w wr ∧ w.heap.size < wr.heap.size ∧ CastsTo wr w.heap.size n c RL S)
  case atStart => exact ⟨0, Nat.zero_le _, rfl, rfl, (Below.refl _ _).alloc (Nat.le_refl _) _, by simp, castsTo_start w n RL S⟩
  case round =>
    obtain ⟨c, hc, rfl, rfl, hB, hsz, hC⟩ := hrel
    by_cases hlt : c < n
    · obtain rfl := hA (by omega)
      clear hA
      have hrz : (c : Int) < (n : Int) := by omega
      obtain ⟨hL0, hL1⟩ := hL c hlt
      obtain ⟨ra, g0, hra⟩ := hrow c hlt
      obtain rfl := hra hL0
      have hrb : RB c < w.heap.size := World.block_lt_of_cell? _ _ (hat c hlt 0 hL0)
      have hbb : b < w.heap.size := World.block_lt_of_cell? _ _ g0
      have g1 : wr.cell? ⟨b, off + c, none⟩ = some (.slice (some ⟨RB c, RO c, none⟩) (RL c) (RC c)) := by rw [hB.cell (p := ⟨b, off + c, none⟩) hbb]; exact g0
      have hmk := run_make_row' (P := Try.prog) 39 40 (.pointer none) 8 Try.underlying39 Try.info40 rfl .i64 .i64 (RL c - 1) (by omega) (by omega)
      have ec : ((RL c - 1 : Nat) : Int) = (RL c : Int) - 1 := by omega
      rw [ec] at hmk
      clear ec hra
      go_wp2
      clear hmk
      have hI0 : InnerAt w wr (wr.alloc (.cells (madeCells #[.pointer none] (RL c - 1)) 40)) n c wr.heap.size 0 RL S :=
        ⟨hB.alloc hB.size _, fun k _ h2 => Deep.blk_alloc_lt _ _ _ h2, secondTo_start wr _ _, by simp⟩
      generalize wr = w0 at *
      go_loopg [7] (RL c) (fun g i wx => ∃ j : Nat, j + 1 ≤ RL c ∧ g = RL c - j ∧ i = .int .i64 ((j : Int) + 1) ∧ InnerAt w w0 wx n c w0.heap.size j RL S)
      case atStart => exact ⟨0, hL0, rfl, rfl, hI0⟩
      case round =>
        obtain ⟨j, hj, rfl, rfl, hI⟩ := hrel
        clear hI0
        by_cases hjl : j + 1 < RL c
        · have hjz : (j : Int) + 1 < (RL c : Int) := by omega
          have g3 : wr.cell? ⟨RB c, RO c + (j + 1), none⟩ = some (.string (S c (j + 1))) := by rw [hI.below.cell (p := ⟨RB c, RO c + (j + 1), none⟩) hrb]; exact hat c hlt (j + 1) hjl
          obtain ⟨f2, hf2, _⟩ := hI.second
          have hst1 : ∀ o, (wr.alloc o).cell? ⟨w0.heap.size, j, none⟩ = some (f2 j) := fun o => (hf2.alloc o).cell (by omega)
          have hst2 : ∀ o, (wr.alloc o).frozen? ⟨w0.heap.size, j, none⟩ = false := fun o => (hf2.alloc o).frozen j
          go_wp2_with (go_at_call 17; refine (newStm_any _ _).mono ?_; rintro e w' ⟨rfl, rfl⟩)
          go_roundg (RL c - (j + 1))
          case measure => go_light; omega
          case rel =>
            go_light
            exact ⟨j + 1, by omega, rfl, by go_num, innerAt_step hI (by omega) (Nat.le_refl _)⟩
        · have hjz : ¬ ((j : Int) + 1 < (RL c : Int)) := by omega
          have ej : j = RL c - 1 := by omega
          subst ej
          have hC1 := hC.keep hI.kept
          obtain ⟨f, hf, _⟩ := hC1
          have hst1 : ∀ o o', ((wr.alloc o).alloc o').cell? ⟨w.heap.size, c, none⟩ = some (f c) := fun o o' => ((hf.alloc o).alloc o').cell hlt
          have hst2 : ∀ o o', ((wr.alloc o).alloc o').frozen? ⟨w.heap.size, c, none⟩ = false := fun o o' => ((hf.alloc o).alloc o').frozen c
          have g4 : wr.cell? ⟨RB c, RO c, none⟩ = some (.string (S c 0)) := by rw [hI.below.cell (p := ⟨RB c, RO c, none⟩) hrb]; exact hat c hlt 0 hL0
          go_wp2_with (first | (go_at_call 17; refine (newStm_any _ _).mono ?_; rintro e w' ⟨rfl, rfl⟩) | (go_at_call 18; refine (newCast_any _ _ _ _ _).mono ?_; rintro e w' ⟨rfl, rfl⟩))
          go_roundg (n - (c + 1))
          case measure => go_light; omega
          case rel =>
            go_light
            have hfin := castsTo_step hL0 hC (show w.heap.size < w0.heap.size from hsz) hI.kept hI.second
            exact ⟨c + 1, by omega, rfl, by go_num, ((hI.below.alloc hI.below.size _).alloc (by have := hI.below.size; simp; omega) _).setCell (Nat.le_refl _) _, by have := hI.size; simp; omega, hfin⟩
    · go_wp2
      have e : c = n := by omega
      subst e
      go_ret
      exact ⟨rfl, hB, hC⟩

end Go.Proofs.Qxb6615834a
