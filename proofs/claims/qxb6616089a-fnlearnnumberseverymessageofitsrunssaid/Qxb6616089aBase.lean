/-
  Ranges in memory: the small laws.
-/
import Derived.Test.Qxb6616089aChecked
import Derived.WalkKit
import Derived.WalkSpells
import Derived.WalkLawsBesides
import Derived.Deep.LoopGhost
import Derived.Deep.OwnRows
import Derived.Deep.Light
import Derived.Deep.QuietTactic
import Derived.BigQuiet
import Derived.Deep.RegionHeld3
import Derived.Deep.AppendLies
namespace Go.Proofs.Qxb6616089a
open Go.RowKit

theorem Try.info24 : (Try.prog.info? 24).map (fun i => (i.zero, i.size, i.bytes)) = some (some (.int .u64 0), 1, 8) := by kernel_rfl
theorem Try.info66 : (Try.prog.info? 66).map (fun i => (i.zero, i.size, i.bytes)) = some (some (.agg #[.int .u64 0, .int .u64 0]), 2, 16) := by kernel_rfl
theorem Try.info26 : (Try.prog.info? 26).map (fun i => (i.zero, i.size, i.bytes)) = some (some (.agg #[.int .u64 0, .int .u64 0]), 2, 16) := by kernel_rfl

/-- n ranges lie in block b from cell off on -/
structure RangesAt (w : World) (b off n : Nat) (F L : Nat → Int) : Prop where
  first : ∀ i, i < n → w.cell? ⟨b, off + i * 2, none⟩ = some (.int .u64 (F i))
  last : ∀ i, i < n → w.cell? ⟨b, off + i * 2 + 1, none⟩ = some (.int .u64 (L i))

theorem RangesAt.keep {w w' : World} {b off n : Nat} {F L : Nat → Int} (h : RangesAt w b off n F L) (hb : Below w.heap.size w w') : RangesAt w' b off n F L := by
  have key : ∀ {o : Nat} {v : Value}, w.cell? ⟨b, o, none⟩ = some v → w'.cell? ⟨b, o, none⟩ = some v := fun {o v} h => by
    have hlt : b < w.heap.size := World.block_lt_of_cell? _ _ h
    rw [hb.cell (p := ⟨b, o, none⟩) hlt]; exact h
  exact ⟨fun i hi => key (h.first i hi), fun i hi => key (h.last i hi)⟩

theorem RangesAt.drop {w : World} {b off n k : Nat} {F L : Nat → Int} (h : RangesAt w b off n F L) : RangesAt w b (off + k * 2) (n - k) (fun i => F (k + i)) (fun i => L (k + i)) :=
  ⟨fun i hi => by rw [show off + k * 2 + i * 2 = off + (k + i) * 2 by omega]; exact h.first (k + i) (by omega),
   fun i hi => by rw [show off + k * 2 + i * 2 + 1 = off + (k + i) * 2 + 1 by omega]; exact h.last (k + i) (by omega)⟩

theorem RangesAt.congr {w : World} {b off n : Nat} {F L F' L' : Nat → Int} (h : RangesAt w b off n F L) (e1 : ∀ i, i < n → F i = F' i) (e2 : ∀ i, i < n → L i = L' i) : RangesAt w b off n F' L' :=
  ⟨fun i hi => by rw [← e1 i hi]; exact h.first i hi, fun i hi => by rw [← e2 i hi]; exact h.last i hi⟩

theorem below2 {w w1 w2 : World} (h1 : Below w.heap.size w w1) (h2 : Below w1.heap.size w1 w2) : Below w.heap.size w w2 := h1.trans (h2.mono h1.size)

/-- 'make([]T, l, c)' where T is two cells of uint64 -/
theorem run_make_pairs {t e : TypeId} (ht : Try.prog.underlying t = some (.slice e)) (hinfo : (Try.prog.info? e).map (fun i => (i.zero, i.size, i.bytes)) = some (some (.agg #[.int .u64 0, .int .u64 0]), 2, 16)) (l c : Int) (h0 : 0 ≤ l) (hlc : l ≤ c) (hc : c ≤ 1048576) (w : World) :
    (Instr.makeSlice t (.int .i64 l) (.int .i64 c)).run Try.prog w = .ok (.slice (some ⟨w.heap.size, 0, none⟩) l.toNat c.toNat) (w.alloc (.cells (madeCells #[.int .u64 0, .int .u64 0] (c.toNat * 2)) e)) := by
  obtain ⟨i, hi, hzz⟩ := Option.map_eq_some_iff.1 hinfo
  simp only [Prod.mk.injEq] at hzz
  obtain ⟨hz, hs, hb⟩ := hzz
  have := run_make (P := Try.prog) w t e i _ ht hi hz .i64 .i64 l c h0 hlc (by rw [hb]; omega) (by omega)
  rw [hs] at this
  exact this

theorem rowIs_pairs (w : World) (n : Nat) (t : TypeId) : (w.alloc (.cells (madeCells #[.int .u64 0, .int .u64 0] n) t)).rowIs w.heap.size t n (fun _ => .int .u64 0) :=
  ⟨_, Deep.blk_alloc_new _ _, size_madeCells _ _, fun i hi => by
    simp [madeCells, hi]
    rcases Nat.mod_two_eq_zero_or_one i with h | h <;> simp [h]⟩

end Go.Proofs.Qxb6616089a
