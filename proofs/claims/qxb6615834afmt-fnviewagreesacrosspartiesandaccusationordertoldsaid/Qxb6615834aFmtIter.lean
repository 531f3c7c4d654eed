/-
  partySet.parties: the iterator's contract.
-/
import Derived.Test.Qxb6615834aFmtSets
import Derived.RangeFuncNested
import Derived.RangeFuncBound
import Derived.RangeFuncCalls
import Derived.RangeFuncLeaves
import Derived.Shelf.Abstract
import Derived.OwnWalkIn
import Derived.TacticsInMore
import Derived.LoopNIn
import Derived.LoopIn
import Derived.Sort.LoopGhostIn
namespace Go.Proofs.Qxb6615834aFmt
open Go.RowKit Go.Deep Go.Shelf
attribute [local go_sem] Oper.semAt_some

/-! ### Plain -/

/-- S from k on. -/
def fromB (S : Nat → Bool) (k : Nat) : Nat → Bool := fun x => S x && decide (k ≤ x)

/-- What has come when all below k have been looked at. -/
def upE (S : Nat → Bool) (k : Nat) : List Nat := (List.range k).filter S

theorem upE_succ (S : Nat → Bool) (k : Nat) : upE S (k + 1) = if S k then upE S k ++ [k] else upE S k := by
  unfold upE
  rw [List.range_succ, List.filter_append]
  by_cases h : S k = true <;> simp [h]

theorem upE_skip (S : Nat → Bool) (k : Nat) : ∀ d, (∀ x, k ≤ x → x < k + d → S x = false) → upE S (k + d) = upE S k
  | 0, _ => rfl
  | d + 1, h => by
    rw [← Nat.add_assoc, upE_succ, h (k + d) (by omega) (by omega), upE_skip S k d fun x h1 h2 => h x h1 (by omega)]
    simp

theorem upE_skip' (S : Nat → Bool) {k j : Nat} (hkj : k ≤ j) (h : ∀ x, k ≤ x → x < j → S x = false) : upE S j = upE S k := by
  have := upE_skip S k (j - k) fun x h1 h2 => h x h1 (by omega)
  rw [show k + (j - k) = j by omega] at this
  exact this

theorem upE_length_le (S : Nat → Bool) (k : Nat) : (upE S k).length ≤ k := by
  unfold upE
  exact Nat.le_trans (List.length_filter_le _ _) (by simp)

theorem upE_length_lt (S : Nat → Bool) {k x : Nat} (h1 : ∀ y, k ≤ y → y < x → S y = false) (hk : k ≤ x) {m : Nat} (hm : x < m) : (upE S k).length < m := by
  rw [← upE_skip' S hk h1]
  exact Nat.lt_of_le_of_lt (upE_length_le S x) hm

/-- A word that is not nought has a lowest bit. -/
theorem low_bit : ∀ (N x : Nat), (∃ j, j < N ∧ x.testBit j = true) → ∃ j, j < N ∧ x.testBit j = true ∧ ∀ i, i < j → x.testBit i = false
  | 0, x, ⟨j, hj, _⟩ => absurd hj (Nat.not_lt_zero _)
  | N + 1, x, ⟨j, hj, hb⟩ => by
    by_cases h : ∃ j, j < N ∧ x.testBit j = true
    · obtain ⟨i, hi, h1, h2⟩ := low_bit N x h
      exact ⟨i, by omega, h1, h2⟩
    · refine ⟨j, hj, hb, fun i hi => ?_⟩
      cases hx : x.testBit i
      · rfl
      · exact absurd ⟨i, by omega, hx⟩ h

theorem wd_low {S : Nat → Bool} {i : Nat} (h : wd S i ≠ 0) : ∃ j, j < 64 ∧ (wd S i).testBit j = true ∧ ∀ k, k < j → (wd S i).testBit k = false := by
  refine low_bit 64 _ ?_
  obtain ⟨j, hj⟩ := Nat.exists_testBit_of_ne_zero h
  exact ⟨j, bit_lt (wd_lt S i) hj, hj⟩

theorem wd_zero {S : Nat → Bool} {i : Nat} (h : wd S i = 0) (j : Nat) (hj : j < 64) : S (64 * i + j) = false := by
  have := wd_testBit S i j
  rw [h] at this
  simpa [hj] using this.symm

theorem wd_next {S : Nat → Bool} {i k j : Nat} (hb : (wd (fromB S k) i).testBit j = true) (hlow : ∀ x, x < j → (wd (fromB S k) i).testBit x = false) :
    wd (fromB S k) i &&& (wd (fromB S k) i - 1) = wd (fromB S (64 * i + j + 1)) i := by
  refine Nat.eq_of_testBit_eq fun y => ?_
  rw [and_pred hb hlow, wd_testBit, wd_testBit]
  have hk : k ≤ 64 * i + j := by
    rw [wd_testBit] at hb
    simp [fromB] at hb
    exact hb.2.2
  by_cases h1 : j < y
  · by_cases h2 : y < 64
    · have e1 : k ≤ 64 * i + y := by omega
      have e2 : 64 * i + j + 1 ≤ 64 * i + y := by omega
      simp [fromB, h1, h2, e1, e2]
    · simp [h2]
  · by_cases h2 : y < 64
    · have e2 : ¬ 64 * i + j + 1 ≤ 64 * i + y := by omega
      simp [fromB, h1, e2]
    · simp [h2]

theorem bits_next {x : Nat} (hx : x < 18446744073709551616) (h0 : 0 < x) : bits .and .u64 (x : Int) ((x : Int) - 1) = ((x &&& (x - 1) : Nat) : Int) := by
  have e : (x : Int) - 1 = ((x - 1 : Nat) : Int) := by omega
  rw [e, and_u64 _ _ hx (by omega)]

/-- A member of S below 64 * m. -/
abbrev El (S : Nat → Bool) (m : Nat) : Type := { x : Nat // x < 64 * m ∧ S x = true }

/-- What the loop's body must keep: the set's own block and the table. -/
def KpB (bs : Nat) (W W' : World) : Prop := W'.heap[bs]? = W.heap[bs]? ∧ W'.heap[0]? = W.heap[0]?

theorem KpB.refl (bs : Nat) (W : World) : KpB bs W W := ⟨rfl, rfl⟩
theorem KpB.trans {bs : Nat} {A B C : World} (h : KpB bs A B) (k : KpB bs B C) : KpB bs A C := ⟨k.1.trans h.1, k.2.trans h.2⟩
theorem KpB.set {bs m : Nat} {S : Nat → Bool} {A B : World} (h : KpB bs A B) (r : SetAt A bs m S) : SetAt B bs m S := World.rowIs.of_block r h.1
theorem KpB.tab {bs : Nat} {A B : World} (h : KpB bs A B) (r : TabAt A) : TabAt B := fun k hk => by
  rw [← r k hk]
  simp [World.cell?, h.2]

set_option maxRecDepth 100000 in
set_option maxHeartbeats 4000000 in
theorem parties1_in (F : Fence) (n : Nat) (h46 : F.fn 46) (h47 : F.fn 47) (hro : F.round = none) (hn : 1 ≤ n) (l Bs bs m : Nat) (S : Nat → Bool) (hm : m ≤ 16)
    (hT : ∀ (x k : Nat), x < 18446744073709551616 → x.testBit k = true → (∀ j, j < k → x.testBit j = false) → ∀ w : World, TabAt w → CallsIn F (n - 1) Tryf.prog 47 #[.int .u64 (x : Int)] w fun e w' => e = .returned (.int .i64 (k : Int)) ∧ w' = w)
    (J Jx : List (El S m) → World → Prop)
    (hY : ∀ pre (x : El S m) W, J pre W → pre.length < 64 * m → YieldAt F (n - 1) Tryf.prog l #[.int .i64 ((x.1 : Int) + 1)] W fun e W' =>
      (e = .returned (.bool true) ∧ J (pre ++ [x]) W' ∧ KpB bs W W') ∨ (e = .returned (.bool false) ∧ Jx (pre ++ [x]) W'))
    (W : World) (hBs : W.cell? ⟨Bs, 0, none⟩ = some (.slice (some ⟨bs, 0, none⟩) m m)) (hS : SetAt W bs m S) (ht : TabAt W) (h0 : J [] W) :
    CallsIn F n Tryf.prog 46 #[.func (.yield l) #[] #[], .pointer (some ⟨Bs, 0, none⟩)] W fun e W' => (∃ v, e = .returned v) ∧
      ((∃ ys : List (El S m), ys.map Subtype.val = upE S (64 * m) ∧ J ys W') ∨ (∃ pre, True ∧ Jx pre W')) := by
  refine callsIn_of_wp Tryf.func46 rfl h46 ?_ hro
  simp only [Tryf.ntmps46, List.size_toArray, List.length_cons, List.length_nil, Nat.reduceAdd, Nat.reduceSub, Array.replicate_succ, Array.replicate_zero, List.push_toArray, List.append_toArray, List.nil_append, List.cons_append]
  gi_wp2
  gi_loopg [7] m (fun g x wr => ∃ (i : Nat) (pre : List (El S m)), i ≤ m ∧ g = m - i ∧ x = .int .i64 i ∧ pre.map Subtype.val = upE S (64 * i) ∧ J pre wr ∧ KpB bs W wr)
  case atStart => exact ⟨0, [], Nat.zero_le _, rfl, rfl, rfl, h0, KpB.refl _ _⟩
  case round =>
    obtain ⟨i, pre, hi, rfl, rfl, hpre, hJ, hK⟩ := hrel
    by_cases him : i < m
    · have hz : (i : Int) < (m : Int) := by omega
      have c1 := World.rowIs.cell (hK.set hS) him
      gi_wp2_with fail
      gi_loopg [4] 64 (fun g x wr => ∃ (k : Nat) (pre : List (El S m)), 64 * i ≤ k ∧ k ≤ 64 * (i + 1) ∧ g = 64 * (i + 1) - k ∧ x = .int .u64 (wd (fromB S k) i : Int) ∧ pre.map Subtype.val = upE S k ∧ J pre wr ∧ KpB bs W wr)
      case atStart =>
        refine ⟨64 * i, pre, Nat.le_refl _, by omega, by omega, ?_, hpre, hJ, hK⟩
        rw [wd_congr (S := S) (T := fromB S (64 * i)) fun j _ => by simp [fromB]]
      case round =>
        clear hpre hJ hK c1 pre
        obtain ⟨k, pre, hk1, hk2, rfl, rfl, hpre, hJ, hK⟩ := hrel
        by_cases h0w : wd (fromB S k) i = 0
        · rw [h0w]
          gi_wp2_with fail
          gi_roundg (m - (i + 1))
          case measure => omega
          case rel =>
            refine ⟨i + 1, pre, him, rfl, by go_num, ?_, hJ, hK⟩
            rw [hpre]
            refine (upE_skip' S hk2 fun x h1 h2 => ?_).symm
            have := wd_zero h0w (x - 64 * i) (by omega)
            rw [show 64 * i + (x - 64 * i) = x by omega] at this
            simpa [fromB, h1] using this
        · obtain ⟨j, hj, hb, hlow⟩ := wd_low h0w
          have hSj : S (64 * i + j) = true ∧ k ≤ 64 * i + j := by
            have := wd_testBit (fromB S k) i j
            rw [hb] at this
            simpa [fromB, hj] using this.symm
          have hmiss : ∀ x, k ≤ x → x < 64 * i + j → S x = false := fun x h1 h2 => by
            have h3 := hlow (x - 64 * i) (by omega)
            have h4 : x - 64 * i < 64 := by omega
            have h5 := wd_testBit (fromB S k) i (x - 64 * i)
            rw [h3, show 64 * i + (x - 64 * i) = x by omega] at h5
            simpa [fromB, h4, h1] using h5.symm
          have hxm : 64 * i + j < 64 * m := by omega
          have hlen : pre.length < 64 * m := by
            have := congrArg List.length hpre
            rw [List.length_map] at this
            rw [this]
            exact upE_length_lt S hmiss hSj.2 hxm
          obtain ⟨fn, tmps, assign, body, hy, hR⟩ := hY pre ⟨64 * i + j, hxm, hSj.1⟩ wr hJ hlen
          have ex : (((64 * i + j : Nat) : Int) + 1) = (i : Int) * 64 + (j : Int) + 1 := by omega
          dsimp only at hy
          rw [ex] at hy
          have hpos : 0 < wd (fromB S k) i := by omega
          have hltw := wd_lt (fromB S k) i
          have hb2 := bits_next hltw hpos
          rw [wd_next hb hlow] at hb2
          have hz2 : ¬ ((wd (fromB S k) i : Int) = 0) := by omega
          have hT' := hT _ j hltw hb hlow wr (hK.tab ht)
          gi_wp2_with (gi_at_call 47; refine hT'.mono ?_; rintro e w' ⟨rfl, rfl⟩)
          refine hR.mono ?_
          rintro e W3 (⟨rfl, hJ3, hk3⟩ | ⟨rfl, hJx3⟩)
          · gi_wp2_with fail
            gi_roundg (64 * (i + 1) - (64 * i + j + 1))
            case measure => omega
            case rel =>
              refine ⟨64 * i + j + 1, _, by omega, by omega, rfl, rfl, ?_, hJ3, hK.trans hk3⟩
              rw [List.map_append, hpre, upE_succ, if_pos hSj.1, upE_skip' S hSj.2 hmiss]
              rfl
          · gi_wp2_with fail
            refine bodyPost_ret (results_none rfl _ _ _) rfl ?_
            exact ⟨⟨_, rfl⟩, .inr ⟨_, trivial, hJx3⟩⟩
    · obtain rfl : i = m := by omega
      gi_wp2_with fail
      go_end0
      exact ⟨⟨_, rfl⟩, .inl ⟨pre, hpre, hJ⟩⟩

set_option maxHeartbeats 1000000 in
/-- s.parties(): the set is boxed; the function value captures the box. -/
theorem parties_any (bs m : Nat) (w : World) :
    Calls Tryf.prog 34 #[.slice (some ⟨bs, 0, none⟩) m m] w fun e w' => e = .returned (.func (.func 46) #[] #[.pointer (some ⟨w.heap.size, 0, none⟩)]) ∧ w' = w.alloc (.cells #[.slice (some ⟨bs, 0, none⟩) m m] 57) := by
  go_enter Tryf.func34, Tryf.ntmps34
  go_wp2
  go_ret
  exact ⟨rfl, rfl⟩

/-- The iterator's contract at the wide fence. -/
theorem parties_stops (n : Nat) (hn : 1 ≤ n) (Bs bs m : Nat) (S : Nat → Bool) (hm : m ≤ 16) (w : World) (hBs : Bs < w.heap.size) (hc : w.cell? ⟨Bs, 0, none⟩ = some (.slice (some ⟨bs, 0, none⟩) m m)) (hS : SetAt w bs m S) (ht : TabAt w) :
    SeqStopsK Fence.wide n Tryf.prog 46 #[.pointer (some ⟨Bs, 0, none⟩)] (fun x : El S m => #[Value.int .i64 ((x.1 : Int) + 1)]) (KpB bs) (fun ys => ys.map Subtype.val = upE S (64 * m)) (fun _ => True) (64 * m) w := fun l J Jx W hW _ _ hY h0 =>
  parties1_in Fence.wide n trivial trivial rfl hn l Bs bs m S hm (fun x k hx hk hl w' ht' => callsIn_wide.2 (trailing_any x k hx hk hl w' ht')) J Jx hY W ((hW.cell (p := ⟨Bs, 0, none⟩) hBs).trans hc)
    (World.rowIs.of_block hS (hW.block _ (World.rowIs.lt hS))) (fun k hk => by
      have h0 : 0 < w.heap.size := by
        have := block_lt_of_cell (ht 0 (by omega))
        simpa using this
      exact (hW.cell (p := ⟨0, k, none⟩) h0).trans (ht k hk)) h0

end Go.Proofs.Qxb6615834aFmt
