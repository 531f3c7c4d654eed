/-
  partySet: newPartySet, add, remove, has, common, commonCount: the walks.
-/
import Derived.Test.Qxb6615834aFmtWords
import Derived.Deep.OwnRows
import Derived.Deep.LoopGhost
import Derived.RegionTactic
import Derived.Deep.QuietTactic
import Derived.BigQuiet
namespace Go.Proofs.Qxb6615834aFmt
open Go.RowKit Go.Deep

/-- Block b is a set's row of m words. -/
def SetAt (w : World) (b m : Nat) (S : Nat → Bool) : Prop := w.rowIs b 82 m (fun i => .int .u64 (wd S i : Int))

theorem SetAt.congr {w : World} {b m : Nat} {S T : Nat → Bool} (h : SetAt w b m S) (e : ∀ x, x < 64 * m → S x = T x) : SetAt w b m T :=
  World.rowIs.congr h fun i hi => by rw [wd_congr (S := S) (T := T) fun j hj => e _ (by omega)]

/-- A world that parts from w in draws alone. -/
def Drew (w w' : World) : Prop := ∃ q, w' = w.drewN q
theorem Drew.refl (w : World) : Drew w w := ⟨0, rfl⟩
theorem Drew.more {w w' : World} (h : Drew w w') (q : Nat) : Drew w (w'.drewN q) := by
  obtain ⟨p, rfl⟩ := h
  exact ⟨p + q, by simp⟩
theorem Drew.trans {w w' w'' : World} (h : Drew w w') (k : Drew w' w'') : Drew w w'' := by
  obtain ⟨q, rfl⟩ := k
  exact h.more q
theorem Drew.one {w w' : World} (h : Drew w w') : Drew w w'.drew := h.more 1
theorem Drew.row {w w' : World} (h : Drew w w') {b t n : Nat} {f : Nat → Value} (r : w.rowIs b t n f) : w'.rowIs b t n f := by
  obtain ⟨p, rfl⟩ := h
  exact r
theorem Drew.set {w w' : World} (h : Drew w w') {b m : Nat} {S : Nat → Bool} (r : SetAt w b m S) : SetAt w' b m S := h.row r
theorem Drew.heap {w w' : World} (h : Drew w w') : w'.heap = w.heap := by
  obtain ⟨p, rfl⟩ := h
  rfl

theorem Tryf.info82 : (Tryf.prog.info? 82).map (fun i => (i.zero, i.size, i.bytes)) = some (some (.int .u64 0), 1, 8) := by kernel_rfl

def madeSet (w : World) (m : Nat) : World := w.alloc (.cells (madeCells #[.int .u64 0] m) 82)

theorem madeSet_at (w : World) (m : Nat) : SetAt (madeSet w m) w.heap.size m (fun _ => false) :=
  (World.rowIs_made w (.int .u64 0) m 82).congr fun i _ => by rw [wd_empty]; rfl

set_option maxHeartbeats 1000000 in
theorem newPartySet_any (n m : Nat) (hn : n ≤ 1024) (hm : (n + 63) / 64 = m) (w : World) :
    Calls Tryf.prog 31 #[.int .i64 (n : Int)] w fun e w' => e = .returned (.slice (some ⟨w.heap.size, 0, none⟩) m m) ∧ w' = madeSet w m := by
  have hmk := run_make_row' (P := Tryf.prog) 57 82 (.int .u64 0) 8 Tryf.underlying57 Tryf.info82 rfl .i64 .i64 m (by omega) (by omega)
  have e : ((n : Int) + 63) / 64 = (m : Int) := by omega
  go_enter Tryf.func31, Tryf.ntmps31
  go_wp2
  go_ret
  exact ⟨rfl, rfl⟩

theorem shl_one {j : Nat} (hj : j < 64) : IntKind.u64.wrap ((2 : Int) ^ j) = ((2 ^ j : Nat) : Int) := by
  have hp : 2 ^ j < 2 ^ 64 := Nat.pow_lt_pow_right (by omega) hj
  have e : (2 : Int) ^ j = ((2 ^ j : Nat) : Int) := by simp
  rw [e, wrap_u64_nat _ (by omega)]

theorem or_wd (S : Nat → Bool) (x : Nat) : bits .or .u64 (wd S (x / 64) : Int) (IntKind.u64.wrap ((2 : Int) ^ (x % 64))) = (wd (putB S x true) (x / 64) : Int) := by
  have hj : x % 64 < 64 := Nat.mod_lt _ (by omega)
  have hp : 2 ^ (x % 64) < 2 ^ 64 := Nat.pow_lt_pow_right (by omega) hj
  rw [shl_one hj, u64_or_nat _ _ (wd_lt _ _) (by omega), wd_add _ _ _ hj, Nat.div_add_mod]

theorem andNot_wd (S : Nat → Bool) (x : Nat) : bits .andNot .u64 (wd S (x / 64) : Int) (IntKind.u64.wrap ((2 : Int) ^ (x % 64))) = (wd (putB S x false) (x / 64) : Int) := by
  have hj : x % 64 < 64 := Nat.mod_lt _ (by omega)
  have hp : 2 ^ (x % 64) < 2 ^ 64 := Nat.pow_lt_pow_right (by omega) hj
  rw [shl_one hj, u64_andNot_nat _ _ (wd_lt _ _) (by omega), wd_remove _ _ _ hj, Nat.div_add_mod]

theorem and_wd (S : Nat → Bool) (x : Nat) : bits .and .u64 (wd S (x / 64) : Int) (IntKind.u64.wrap ((2 : Int) ^ (x % 64))) = if S x then ((2 ^ (x % 64) : Nat) : Int) else 0 := by
  have hj : x % 64 < 64 := Nat.mod_lt _ (by omega)
  have hp : 2 ^ (x % 64) < 2 ^ 64 := Nat.pow_lt_pow_right (by omega) hj
  rw [shl_one hj, u64_and_nat _ _ (wd_lt _ _) (by omega), wd_has _ _ _ hj, Nat.div_add_mod]
  split <;> simp

/-- The world behind a write into a set. -/
def wrote (w : World) (b x : Nat) (S : Nat → Bool) : World := w.setCell ⟨b, x / 64, none⟩ (.int .u64 (wd S (x / 64) : Int))

theorem SetAt.put {w : World} {b m : Nat} {S : Nat → Bool} (h : SetAt w b m S) (x : Nat) (v : Bool) : SetAt (wrote w b x (putB S x v)) b m (putB S x v) :=
  (World.rowIs.set h (x / 64) _).congr fun i _ => by
    by_cases e : i = x / 64
    · simp [e]
    · rw [if_neg e, wd_other]
      exact fun h => e h.symm

set_option maxHeartbeats 1000000 in
theorem add_any (b m x : Nat) (S : Nat → Bool) (hx : x < 64 * m) (hm : m ≤ 16) (w : World) (h : SetAt w b m S) :
    Calls Tryf.prog 32 #[.slice (some ⟨b, 0, none⟩) m m, .int .i64 ((x : Int) + 1)] w fun e w' => e = .returned (.tuple #[]) ∧ w' = (wrote w b x (putB S x true)).drew := by
  have c1 := h.cell (i := x / 64) (by omega)
  have c2 := h.frozen (x / 64)
  go_enter Tryf.func32, Tryf.ntmps32
  go_wp2
  go_region
  rw [or_wd]
  go_end0
  exact ⟨rfl, rfl⟩

set_option maxHeartbeats 1000000 in
theorem remove_any (b m x : Nat) (S : Nat → Bool) (hx : x < 64 * m) (hm : m ≤ 16) (w : World) (h : SetAt w b m S) :
    Calls Tryf.prog 45 #[.slice (some ⟨b, 0, none⟩) m m, .int .i64 ((x : Int) + 1)] w fun e w' => e = .returned (.tuple #[]) ∧ w' = (wrote w b x (putB S x false)).drew := by
  have c1 := h.cell (i := x / 64) (by omega)
  have c2 := h.frozen (x / 64)
  go_enter Tryf.func45, Tryf.ntmps45
  go_wp2
  go_region
  rw [andNot_wd]
  go_end0
  exact ⟨rfl, rfl⟩

set_option maxHeartbeats 1000000 in
theorem has_any (b m x : Nat) (S : Nat → Bool) (hx : x < 64 * m) (hm : m ≤ 16) (w : World) (h : SetAt w b m S) :
    Calls Tryf.prog 25 #[.slice (some ⟨b, 0, none⟩) m m, .int .i64 ((x : Int) + 1)] w fun e w' => e = .returned (.bool (S x)) ∧ w' = w.drew := by
  have c1 := h.cell (i := x / 64) (by omega)
  have c3 := and_wd S x
  have hp : 0 < 2 ^ (x % 64) := Nat.two_pow_pos _
  cases hs : S x
  · rw [hs] at c3
    simp only [Bool.false_eq_true, if_false] at c3
    go_enter Tryf.func25, Tryf.ntmps25
    go_wp2
    go_region
    go_wp2
    go_ret
    exact ⟨rfl, rfl⟩
  · rw [hs] at c3
    simp only [if_true] at c3
    generalize 2 ^ (x % 64) = y at c3 hp
    go_enter Tryf.func25, Tryf.ntmps25
    go_wp2
    go_region
    go_wp2
    go_ret
    exact ⟨by simp; omega, rfl⟩

/-! ### The parties that two sets share -/

def both (S T : Nat → Bool) : Nat → Bool := fun x => S x && T x

theorem and_both (S T : Nat → Bool) (i : Nat) : bits .and .u64 (wd S i : Int) (wd T i : Int) = (wd (both S T) i : Int) := by
  rw [u64_and_nat _ _ (wd_lt _ _) (wd_lt _ _), wd_and]
  rfl

set_option maxHeartbeats 1000000 in
theorem commonCount_any (b1 b2 m : Nat) (S T : Nat → Bool) (hm : m ≤ 16) (w : World) (h1 : SetAt w b1 m S) (h2 : SetAt w b2 m T) :
    Calls Tryf.prog 35 #[.slice (some ⟨b1, 0, none⟩) m m, .slice (some ⟨b2, 0, none⟩) m m] w fun e w' => e = .returned (.int .i64 (cnt (both S T) (64 * m) : Int)) ∧ Drew w w' := by
  go_enter Tryf.func35, Tryf.ntmps35
  go_wp2_with fail
  go_loopg [5, 9] m (fun g x5 x wr => ∃ j : Nat, j ≤ m ∧ g = m - j ∧ x = .int .i64 j ∧ x5 = .int .i64 (cnt (both S T) (64 * j) : Nat) ∧ Drew w wr)
  case atStart => exact ⟨0, Nat.zero_le _, rfl, rfl, rfl, Drew.refl _⟩
  case round =>
    obtain ⟨j, hj, rfl, rfl, rfl, hd⟩ := hrel
    have hle := cnt_le (both S T) (64 * j)
    by_cases hjn : j < m
    · have hz : (j : Int) < (m : Int) := by omega
      have c1 := World.rowIs.cell (hd.row h1) hjn
      have c2 := World.rowIs.cell (hd.row h2) hjn
      have c3 := and_both S T j
      have hw := cnt_words (both S T) j
      have hle2 := cnt_le (both S T) (64 * (j + 1))
      have hlt := wd_lt (both S T) j
      go_wp2_with fail
      go_quiet (first | (go_at_call 48; refine Calls.quiet_of_same (onesCount_any _ hlt _)))
      go_wp2_with fail
      go_roundg (m - (j + 1))
      case measure => omega
      case rel => exact ⟨j + 1, hjn, rfl, by go_num, by rw [hw]; simp, hd.more _⟩
    · obtain rfl : j = m := by omega
      go_wp2_with fail
      go_ret
      exact ⟨rfl, hd⟩

/-- The words below j are the shared set's, the rest are nought. -/
def upW (S : Nat → Bool) (j : Nat) (i : Nat) : Value := if i < j then .int .u64 (wd S i : Int) else .int .u64 0

set_option maxHeartbeats 1000000 in
theorem common_any (b1 b2 m : Nat) (S T : Nat → Bool) (hm : m ≤ 16) (w : World) (h1 : SetAt w b1 m S) (h2 : SetAt w b2 m T) :
    Calls Tryf.prog 37 #[.slice (some ⟨b1, 0, none⟩) m m, .slice (some ⟨b2, 0, none⟩) m m] w fun e w' => e = .returned (.slice (some ⟨w.heap.size, 0, none⟩) m m) ∧ SetAt w' w.heap.size m (both S T) ∧ Below w.heap.size w w' ∧ w'.heap.size = w.heap.size + 1 := by
  have hmk := run_make_row' (P := Tryf.prog) 57 82 (.int .u64 0) 8 Tryf.underlying57 Tryf.info82 rfl .i64 .i64 m (by omega) (by omega)
  have l1 := World.rowIs.lt h1
  have l2 := World.rowIs.lt h2
  go_enter Tryf.func37, Tryf.ntmps37
  go_wp2_with fail
  go_loopg [12] m (fun g x wr => ∃ j : Nat, j ≤ m ∧ g = m - j ∧ x = .int .i64 j ∧ Below w.heap.size w wr ∧ wr.heap.size = w.heap.size + 1 ∧ wr.rowIs w.heap.size 82 m (upW (both S T) j))
  case atStart => exact ⟨0, Nat.zero_le _, rfl, rfl, (Below.refl _ _).alloc (Nat.le_refl _) _, by simp, (World.rowIs_made w (.int .u64 0) m 82).congr fun i _ => by simp [upW]⟩
  case round =>
    obtain ⟨j, hj, rfl, rfl, hB, hsz, hr⟩ := hrel
    by_cases hjn : j < m
    · have hz : (j : Int) < (m : Int) := by omega
      have c1 := (hB.cell (p := ⟨b1, j, none⟩) l1).trans (World.rowIs.cell h1 hjn)
      have c2 := (hB.cell (p := ⟨b2, j, none⟩) l2).trans (World.rowIs.cell h2 hjn)
      have c3 := and_both S T j
      have c4 := hr.cell hjn
      have c5 := hr.frozen j
      have h' := hr.set j (.int .u64 (wd (both S T) j : Int))
      have hB' := hB.setCell (p := ⟨w.heap.size, j, none⟩) (Nat.le_refl _) (.int .u64 (wd (both S T) j : Int))
      go_wp2_with fail
      go_region
      go_wp2_with fail
      go_roundg (m - (j + 1))
      case measure => omega
      case rel => exact ⟨j + 1, hjn, rfl, by go_num, hB'.drew, by simpa using hsz, (h'.congr (g := upW (both S T) (j + 1)) fun i _ => by
          unfold upW
          by_cases e : i = j
          · simp [e]
          · have e2 : (i < j + 1) = (i < j) := by simp; omega
            simp only [e2, if_neg e]).drew⟩
    · obtain rfl : j = m := by omega
      go_wp2_with fail
      go_ret
      exact ⟨rfl, hr.congr fun i hi => by simp [upW, hi], hB, hsz⟩

end Go.Proofs.Qxb6615834aFmt
