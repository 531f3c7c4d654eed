/-
  zzBuildCasts walked: what it lays in memory.
-/
import Derived.Test.Qxb6615834aDist
namespace Go.Proofs.Qxb6615834a
open Go.RowKit

theorem Try.info34 : (Try.prog.info? 34).map (fun i => (i.zero, i.size, i.bytes)) = some (some (.pointer none), 1, 8) := by kernel_rfl
theorem Try.info40 : (Try.prog.info? 40).map (fun i => (i.zero, i.size, i.bytes)) = some (some (.pointer none), 1, 8) := by kernel_rfl

def instObj (s : ByteArray) : Obj := .cells #[.pointer none, .string s, .int .i64 0, .int .i64 0, .nilFunc, .pointer none, .int .i64 0, .map none, .map none, .int .i64 0, .map none, .map none, .map none, .map none] 82
def castObj (m : Int) (v1 a : Option Addr) (n : Nat) : Obj := .cells #[.int .i64 m, .pointer v1, .slice a n n, .pointer none, .bool false, .map none, .map none, .map none] 64

theorem inst_name (w : World) (s : ByteArray) : (w.alloc (instObj s)).cell? ⟨w.heap.size, 1, none⟩ = some (.string s) := by
  simp [instObj]
theorem cast_cell0 (w : World) (m : Int) (v1 a : Option Addr) (n : Nat) : (w.alloc (castObj m v1 a n)).cell? ⟨w.heap.size, 0, none⟩ = some (.int .i64 m) := by
  simp [castObj]
theorem cast_cell1 (w : World) (m : Int) (v1 a : Option Addr) (n : Nat) : (w.alloc (castObj m v1 a n)).cell? ⟨w.heap.size, 1, none⟩ = some (.pointer v1) := by
  simp [castObj]
theorem cast_cell2 (w : World) (m : Int) (v1 a : Option Addr) (n : Nat) : (w.alloc (castObj m v1 a n)).cell? ⟨w.heap.size, 2, none⟩ = some (.slice a n n) := by
  simp [castObj]

set_option maxHeartbeats 400000 in
theorem newStm_any (s : ByteArray) (w : World) :
    Calls Try.prog 17 #[.string s] w fun e w' => e = .returned (.pointer (some ⟨w.heap.size, 0, none⟩)) ∧ w.alloc (instObj s) = w' := by
  go_enter Try.func17, Try.ntmps17
  go_wp2
  go_ret
  exact ⟨rfl, rfl⟩

set_option maxHeartbeats 400000 in
theorem newCast_any (m : Int) (v1 : Option Addr) (a : Option Addr) (n : Nat) (w : World) :
    Calls Try.prog 18 #[.int .i64 m, .pointer v1, .slice a n n] w fun e w' => e = .returned (.pointer (some ⟨w.heap.size, 0, none⟩)) ∧ w.alloc (castObj m v1 a n) = w' := by
  go_enter Try.func18, Try.ntmps18
  go_wp2
  go_ret
  exact ⟨rfl, rfl⟩

/-- block p holds a cast of L names, in blocks from lo on -/
structure CastAt (w : World) (lo p L : Nat) (names : Nat → ByteArray) : Prop where
  lop : lo ≤ p
  num : w.cell? ⟨p, 0, none⟩ = some (.int .i64 ((L : Int) - 1))
  first : ∃ i0, lo ≤ i0 ∧ w.cell? ⟨p, 1, none⟩ = some (.pointer (some ⟨i0, 0, none⟩)) ∧ w.cell? ⟨i0, 1, none⟩ = some (.string (names 0))
  second : ∃ sb, lo ≤ sb ∧ w.cell? ⟨p, 2, none⟩ = some (.slice (some ⟨sb, 0, none⟩) (L - 1) (L - 1)) ∧ ∀ j, j + 1 < L → ∃ ij, lo ≤ ij ∧ w.cell? ⟨sb, j, none⟩ = some (.pointer (some ⟨ij, 0, none⟩)) ∧ w.cell? ⟨ij, 1, none⟩ = some (.string (names (j + 1)))

theorem cell_keep {w w' : World} {lo k o : Nat} {v : Value} (hk : ∀ k, lo ≤ k → k < w.heap.size → w'.heap[k]? = w.heap[k]?) (hlo : lo ≤ k) (h : w.cell? ⟨k, o, none⟩ = some v) : w'.cell? ⟨k, o, none⟩ = some v := by
  have hlt : k < w.heap.size := World.block_lt_of_cell? _ _ h
  rw [World.cell?_of_block (w := w) (hk k hlo hlt)]
  exact h

theorem CastAt.keep {w w' : World} {lo p L : Nat} {names : Nat → ByteArray} (h : CastAt w lo p L names) (hk : ∀ k, lo ≤ k → k < w.heap.size → w'.heap[k]? = w.heap[k]?) : CastAt w' lo p L names := by
  obtain ⟨h1, h2, ⟨i0, a1, a2, a3⟩, ⟨sb, b1, b2, b3⟩⟩ := h
  refine ⟨h1, cell_keep hk h1 h2, ⟨i0, a1, cell_keep hk h1 a2, cell_keep hk a1 a3⟩, ⟨sb, b1, cell_keep hk h1 b2, fun j hj => ?_⟩⟩
  obtain ⟨ij, c1, c2, c3⟩ := b3 j hj
  exact ⟨ij, c1, cell_keep hk b1 c2, cell_keep hk c1 c3⟩

/-- the row of casts in block g: c of its n cells are filled -/
def CastsTo (w : World) (g n c : Nat) (RL : Nat → Nat) (S : Nat → Nat → ByteArray) : Prop :=
  ∃ f, w.rowIs g 34 n f ∧ ∀ i, i < c → ∃ p, f i = .pointer (some ⟨p, 0, none⟩) ∧ CastAt w (g + 1) p (RL i) (S i)

theorem CastsTo.keep {w w' : World} {g n c : Nat} {RL : Nat → Nat} {S : Nat → Nat → ByteArray} (h : CastsTo w g n c RL S) (hk : ∀ k, g ≤ k → k < w.heap.size → w'.heap[k]? = w.heap[k]?) : CastsTo w' g n c RL S := by
  obtain ⟨f, hf, hc⟩ := h
  refine ⟨f, hf.of_block (hk g (Nat.le_refl _) hf.lt), fun i hi => ?_⟩
  obtain ⟨p, e, hp⟩ := hc i hi
  exact ⟨p, e, hp.keep (fun k h1 h2 => hk k (by omega) h2)⟩

/-- the row of second-stage instances in block sb: j of its m cells are filled -/
def SecondTo (w : World) (sb m j : Nat) (names : Nat → ByteArray) : Prop :=
  ∃ f, w.rowIs sb 40 m f ∧ ∀ i, i < j → ∃ q, f i = .pointer (some ⟨q, 0, none⟩) ∧ sb + 1 ≤ q ∧ w.cell? ⟨q, 1, none⟩ = some (.string (names (i + 1)))

theorem castsTo_start (w : World) (n : Nat) (RL : Nat → Nat) (S : Nat → Nat → ByteArray) : CastsTo (w.alloc (.cells (madeCells #[.pointer none] n) 34)) w.heap.size n 0 RL S :=
  ⟨_, World.rowIs_made w _ n 34, fun _ hi => absurd hi (Nat.not_lt_zero _)⟩
theorem secondTo_start (w : World) (m : Nat) (names : Nat → ByteArray) : SecondTo (w.alloc (.cells (madeCells #[.pointer none] m) 40)) w.heap.size m 0 names :=
  ⟨_, World.rowIs_made w _ m 40, fun _ hi => absurd hi (Nat.not_lt_zero _)⟩

theorem secondTo_step {w : World} {sb m j : Nat} {names : Nat → ByteArray} (h : SecondTo w sb m j names) :
    SecondTo ((w.alloc (instObj (names (j + 1)))).setCell ⟨sb, j, none⟩ (.pointer (some ⟨w.heap.size, 0, none⟩))) sb m (j + 1) names := by
  obtain ⟨f, hf, hc⟩ := h
  have hlt := hf.lt
  refine ⟨_, (hf.alloc _).set j _, fun i hi => ?_⟩
  by_cases e : i = j
  · subst e
    refine ⟨w.heap.size, by simp, hlt, ?_⟩
    rw [World.cell?_setCell_other _ _ _ _ (fun e => by have := congrArg Addr.block e; simp at this; omega)]
    exact inst_name w _
  · obtain ⟨q, h1, h2, h3⟩ := hc i (by omega)
    refine ⟨q, by rw [if_neg e]; exact h1, h2, ?_⟩
    rw [World.cell?_setCell_other _ _ _ _ (fun e => by have := congrArg Addr.block e; simp at this; omega), World.cell?_alloc_lt _ _ _ (World.block_lt_of_cell? _ _ h3)]
    exact h3

/-- another block is written, or one is made: the casts stay -/
theorem CastsTo.alloc {w : World} {g n c : Nat} {RL : Nat → Nat} {S : Nat → Nat → ByteArray} (h : CastsTo w g n c RL S) (o : Obj) : CastsTo (w.alloc o) g n c RL S :=
  h.keep (fun _ _ h2 => Deep.blk_alloc_lt _ _ _ h2)

/-- the store of a new cast at c -/
theorem castsTo_step {w0 w : World} {g n c sb : Nat} {RL : Nat → Nat} {S : Nat → Nat → ByteArray} (hL : 0 < RL c) (h0 : CastsTo w0 g n c RL S) (hg : g < sb)
    (hk : ∀ k, g ≤ k → k < w0.heap.size → w.heap[k]? = w0.heap[k]?) (h2 : SecondTo w sb (RL c - 1) (RL c - 1) (S c)) :
    CastsTo (((w.alloc (instObj (S c 0))).alloc (castObj ((RL c : Int) - 1) (some ⟨w.heap.size, 0, none⟩) (some ⟨sb, 0, none⟩) (RL c - 1))).setCell ⟨g, c, none⟩ (.pointer (some ⟨w.heap.size + 1, 0, none⟩))) g n (c + 1) RL S := by
  have hw : CastsTo w g n c RL S := h0.keep hk
  obtain ⟨f2, hf2, hc2⟩ := h2
  have hsblt := hf2.lt
  obtain ⟨f, hf, hc⟩ := hw
  refine ⟨_, ((hf.alloc _).alloc _).set c _, fun i hi => ?_⟩
  have blk : ∀ k, k < w.heap.size → k ≠ g → (((w.alloc (instObj (S c 0))).alloc (castObj ((RL c : Int) - 1) (some ⟨w.heap.size, 0, none⟩) (some ⟨sb, 0, none⟩) (RL c - 1))).setCell ⟨g, c, none⟩ (.pointer (some ⟨w.heap.size + 1, 0, none⟩))).heap[k]? = w.heap[k]? := fun k h1 h2 => by
    rw [Deep.blk_setCell_other _ _ _ _ (by simpa using h2), Deep.blk_alloc_lt _ _ _ (by rw [Deep.nblk_alloc]; omega), Deep.blk_alloc_lt _ _ _ h1]
  have sc : ∀ (k o : Nat), k ≠ g → (((w.alloc (instObj (S c 0))).alloc (castObj ((RL c : Int) - 1) (some ⟨w.heap.size, 0, none⟩) (some ⟨sb, 0, none⟩) (RL c - 1))).setCell ⟨g, c, none⟩ (.pointer (some ⟨w.heap.size + 1, 0, none⟩))).cell? ⟨k, o, none⟩ = ((w.alloc (instObj (S c 0))).alloc (castObj ((RL c : Int) - 1) (some ⟨w.heap.size, 0, none⟩) (some ⟨sb, 0, none⟩) (RL c - 1))).cell? ⟨k, o, none⟩ := fun k o h => by
    rw [World.cell?_setCell_other _ _ _ _ (fun e => by have := congrArg Addr.block e; simp at this; omega)]
  have sz : (w.alloc (instObj (S c 0))).heap.size = w.heap.size + 1 := Deep.nblk_alloc _ _
  by_cases e : i = c
  · subst e
    refine ⟨w.heap.size + 1, by simp, ⟨by omega, ?_, ⟨w.heap.size, by omega, ?_, ?_⟩, ⟨sb, by omega, ?_, fun j hj => ?_⟩⟩⟩
    · rw [sc _ _ (by omega), ← sz]; exact cast_cell0 _ _ _ _ _
    · rw [sc _ _ (by omega), ← sz]; exact cast_cell1 _ _ _ _ _
    · rw [sc _ _ (by omega), World.cell?_alloc_lt _ _ _ (by simp)]; exact inst_name _ _
    · rw [sc _ _ (by omega), ← sz]; exact cast_cell2 _ _ _ _ _
    · obtain ⟨q, h1, h2, h3⟩ := hc2 j (by omega)
      have hq := World.block_lt_of_cell? _ _ h3
      refine ⟨q, by omega, ?_, ?_⟩
      · rw [World.cell?_of_block (w := w) (blk sb hsblt (by omega)), hf2.cell (by omega), h1]
      · rw [World.cell?_of_block (w := w) (blk q hq (by omega))]; exact h3
  · obtain ⟨p, e1, hp⟩ := hc i (by omega)
    exact ⟨p, by rw [if_neg e]; exact e1, hp.keep (fun k h1 h2 => blk k h2 (by omega))⟩

end Go.Proofs.Qxb6615834a
