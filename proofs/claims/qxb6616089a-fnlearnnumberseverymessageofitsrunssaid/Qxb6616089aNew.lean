/-
  buildRanges, newest, and the readers, walked.
-/
import Derived.Test.Qxb6616089aSeq
namespace Go.Proofs.Qxb6616089a
open Go.RowKit

def upTo (F : Nat → Int) (i k : Nat) : Value := if k < i then .int .u64 (F k) else .int .u64 0
theorem upTo_step {w : World} {b n i : Nat} {F : Nat → Int} (h : w.rowIs b 24 n (upTo F i)) : (w.setCell ⟨b, i, none⟩ (.int .u64 (F i))).rowIs b 24 n (upTo F (i + 1)) := by
  refine (h.set i _).congr (fun k hk => ?_)
  by_cases e : k = i
  · subst e; simp [upTo]
  · rw [if_neg e]
    unfold upTo
    by_cases h3 : k < i
    · rw [if_pos h3, if_pos (by omega)]
    · rw [if_neg h3, if_neg (by omega)]
theorem upTo_full {w : World} {b n : Nat} {F : Nat → Int} (h : w.rowIs b 24 n (upTo F n)) : w.rowIs b 24 n (fun i => .int .u64 (F i)) :=
  h.congr (fun i hi => by simp [upTo, hi])

/-- what the callers need of a list of ranges: its value, and where it lies -/
structure ListAt (w : World) (v : Value) (n : Nat) (F L : Nat → Int) (A : Option Addr) (b off cap : Nat) : Prop where
  val : v = .slice A n cap
  cap : n ≤ cap
  addr : 0 < n → A = some ⟨b, off, none⟩
  at_ : RangesAt w b off n F L
theorem ListAt.keep {w w' : World} {v : Value} {n : Nat} {F L : Nat → Int} {A : Option Addr} {b off cap : Nat} (h : ListAt w v n F L A b off cap) (hb : Below w.heap.size w w') : ListAt w' v n F L A b off cap :=
  ⟨h.val, h.cap, h.addr, h.at_.keep hb⟩

set_option maxHeartbeats 1000000 in
theorem buildRanges_nil (w : World) :
    Calls Try.prog 8 #[.slice none 0 0] w fun e w' => e = .returned (.slice none 0 0) ∧ w' = w := by
  have hq := fun (v : Option Addr) (n c n' c' : Nat) (wx : World) => Lib.run_eql_slice_nil (P := Try.prog) wx 22 26 v n c n' c' Try.underlying22
  go_enter Try.func8, Try.ntmps8
  go_wp2_with (go_at_call 20; refine (seqRanges_nil _).mono ?_; rintro e w' ⟨rfl, rfl⟩)
  go_ret
  exact ⟨rfl, rfl⟩

set_option maxHeartbeats 1000000 in
theorem buildRanges_some (a : Addr) (b off n cap : Nat) (F L : Nat → Int) (w : World) (hn : n ≤ 65536) (hA : 0 < n → a = ⟨b, off, none⟩) (hR : RangesAt w b off n F L) :
    Calls Try.prog 8 #[.slice (some a) n cap] w fun e w' => ∃ g, e = .returned (.slice (some ⟨g, 0, none⟩) n n) ∧ Below w.heap.size w w' ∧ RangesAt w' g 0 n F L := by
  have hq := fun (v : Option Addr) (n c n' c' : Nat) (wx : World) => Lib.run_eql_slice_nil (P := Try.prog) wx 22 26 v n c n' c' Try.underlying22
  have hmk := run_make_row' (P := Try.prog) 35 24 (.int .u64 0) 8 Try.underlying35 Try.info24 rfl .i64 .i64 n (by omega) (by omega)
  go_enter Try.func8, Try.ntmps8
  go_wp2
  clear hmk hq
  go_loopg [5] n (fun g x wr => ∃ i : Nat, i ≤ n ∧ g = n - i ∧ x = .int .i64 i ∧ Below w.heap.size w wr ∧ w.heap.size + 1 < wr.heap.size ∧ wr.rowIs w.heap.size 24 n (upTo F i) ∧ wr.rowIs (w.heap.size + 1) 24 n (upTo L i))
  case atStart =>
    refine ⟨0, Nat.zero_le _, rfl, rfl, ((Below.refl _ _).alloc (Nat.le_refl _) _).alloc (by simp) _, by simp, ((World.rowIs_made w _ n 24).alloc _).congr (fun k _ => by simp [upTo]), ?_⟩
    have := World.rowIs_made (w.alloc (.cells (madeCells #[.int .u64 0] n) 24)) (.int .u64 0) n 24
    rw [Deep.nblk_alloc] at this
    exact this.congr (fun k _ => by simp [upTo])
  case round =>
    obtain ⟨i, hi, rfl, rfl, hB, hsz, hR1, hR2⟩ := hrel
    by_cases hlt : i < n
    · obtain rfl := hA (by omega)
      clear hA
      have hz : (i : Int) < (n : Int) := by omega
      have hbb : b < w.heap.size := World.block_lt_of_cell? _ _ (hR.first i hlt)
      have c1 : wr.cell? ⟨b, off + i * 2, none⟩ = some (.int .u64 (F i)) := by rw [hB.cell (p := ⟨b, off + i * 2, none⟩) hbb]; exact hR.first i hlt
      have c2 : ∀ v, (wr.setCell ⟨w.heap.size, i, none⟩ v).cell? ⟨b, off + i * 2 + 1, none⟩ = some (.int .u64 (L i)) := fun v => by
        rw [World.cell?_setCell_other _ _ _ _ (fun e => by have := congrArg Addr.block e; simp at this; omega), hB.cell (p := ⟨b, off + i * 2 + 1, none⟩) hbb]; exact hR.last i hlt
      have d1 : wr.cell? ⟨w.heap.size, i, none⟩ = some _ := hR1.cell hlt
      have f1 := hR1.frozen i
      have d2 : ∀ v, (wr.setCell ⟨w.heap.size, i, none⟩ v).cell? ⟨w.heap.size + 1, i, none⟩ = some (upTo L i i) := fun v => (hR2.setOther (by show w.heap.size + 1 ≠ w.heap.size; omega) v).cell hlt
      have f2 : ∀ v, (wr.setCell ⟨w.heap.size, i, none⟩ v).frozen? ⟨w.heap.size + 1, i, none⟩ = false := fun v => (hR2.setOther (by show w.heap.size + 1 ≠ w.heap.size; omega) v).frozen i
      go_wp2
      go_roundg (n - (i + 1))
      case measure => go_light; omega
      case rel =>
        go_light
        exact ⟨i + 1, by omega, rfl, by go_num, (hB.setCell (Nat.le_refl _) _).setCell (Nat.le_succ _) _, by simpa using hsz, (upTo_step hR1).setOther (by show w.heap.size ≠ w.heap.size + 1; omega) _, upTo_step (hR2.setOther (by show w.heap.size + 1 ≠ w.heap.size; omega) _)⟩
    · have e : i = n := by omega
      subst e
      go_wp2_with (go_at_call 20; refine (seqRanges_any _ _ _ F L _ hn (upTo_full hR1) (upTo_full hR2)).mono ?_; rintro e w' ⟨rfl, hb, hr⟩)
      go_ret
      exact ⟨_, rfl, below2 hB hb, hr⟩

/-- how many ranges newest keeps -/
def keep (n : Nat) : Nat := min n 128

set_option maxHeartbeats 1000000 in
theorem windowOf_any (n : Nat) (w : World) : Calls Try.prog 21 #[.int .i64 n] w fun e w' => e = .returned (.int .i64 (keep n)) ∧ w' = w := by
  by_cases h : (128 : Int) < (n : Int)
  · have e : keep n = 128 := by unfold keep; omega
    rw [e]
    go_enter Try.func21, Try.ntmps21
    go_wp2
    go_ret
    exact ⟨rfl, rfl⟩
  · have e : keep n = n := by unfold keep; omega
    rw [e]
    go_enter Try.func21, Try.ntmps21
    go_wp2
    go_ret
    exact ⟨rfl, rfl⟩

set_option maxHeartbeats 1000000 in
theorem rangeAt_any (A : Option Addr) (b off n cap : Nat) (F L : Nat → Int) (i : Nat) (w : World) (hn : n ≤ 65536) (hA : 0 < n → A = some ⟨b, off, none⟩) (hR : RangesAt w b off n F L) (hi : i < n) :
    Calls Try.prog 22 #[.slice A n cap, .int .i64 i] w fun e w' => e = .returned (.tuple #[.int .u64 (F i), .int .u64 (L i)]) ∧ Below w.heap.size w w' := by
  obtain rfl := hA (by omega)
  have hz : (i : Int) < (n : Int) := by omega
  have c1 := hR.first i hi
  have c2 := hR.last i hi
  go_enter Try.func22, Try.ntmps22
  go_wp2
  go_quiet (fail)
  go_wp2
  go_ret2
  exact ⟨rfl, below_drewN (Below.refl _ _) _⟩

theorem shift_addr {A : Option Addr} {b n k : Nat} (hA : 0 < n → A = some ⟨b, 0, none⟩) (h : 0 < n) : A.map (fun x => x.add (k * 2)) = some ⟨b, k * 2, none⟩ := by
  rw [hA h]
  by_cases e : k * 2 = 0
  · simp [Addr.add, e]
  · simp [Addr.add, e]

set_option maxRecDepth 10000 in
set_option maxHeartbeats 400000 in
theorem newest_any (A : Option Addr) (b n : Nat) (w : World) (hn : n ≤ 65536) (hA : 0 < n → A = some ⟨b, 0, none⟩) :
    Calls Try.prog 19 #[.slice A n n] w fun e w' => ∃ A', e = .returned (.slice A' (keep n) (keep n)) ∧ (0 < keep n → A' = some ⟨b, (n - keep n) * 2, none⟩) ∧ w' = w := by
  by_cases h : 128 ≤ n
  · have hk : n - (n - 128) = keep n := by unfold keep; omega
    have hk2 : n - 128 = n - keep n := by unfold keep; omega
    have Hk : Hid (n - (n - 128) = keep n) := hk
    have Hs : Hid (A.map (fun x => x.add ((n - 128) * 2)) = some ⟨b, (n - keep n) * 2, none⟩) := by rw [← hk2]; exact shift_addr hA (by omega)
    clear hk hk2
    have hz : ¬ ((n : Int) - 128 < 0) := by omega
    go_enter Try.func19, Try.ntmps19
    go_wp2
    go_ret
    exact ⟨_, by rw [← Hk.out]; rfl, fun _ => Hs.out, rfl⟩
  · have hk : n = keep n := by unfold keep; omega
    have Hk : Hid (n = keep n) := hk
    clear hk
    have hz : (n : Int) - 128 < 0 := by omega
    go_enter Try.func19, Try.ntmps19
    go_wp2
    all_goals
      go_ret
      refine ⟨A, ?_, fun h => ?_, rfl⟩
      · rw [← Hk.out]; rfl
      · have := Hk.out
        rw [← this, Nat.sub_self]
        exact hA (by omega)

set_option maxHeartbeats 1000000 in
theorem zznewest_any (A : Option Addr) (b n : Nat) (w : World) (hn : n ≤ 65536) (hA : 0 < n → A = some ⟨b, 0, none⟩) :
    Calls Try.prog 7 #[.slice A n n] w fun e w' => ∃ A', e = .returned (.slice A' (keep n) (keep n)) ∧ (0 < keep n → A' = some ⟨b, (n - keep n) * 2, none⟩) ∧ w' = w := by
  go_enter Try.func7, Try.ntmps7
  go_wp2_with fail
  refine (newest_any A b n _ hn hA).mono ?_
  rintro e w' ⟨A', rfl, h1, rfl⟩
  go_wp2_with fail
  go_ret
  exact ⟨_, rfl, h1, rfl⟩

set_option maxHeartbeats 1000000 in
theorem sameRange_any (A A' : Option Addr) (b off n cap b' off' n' cap' : Nat) (F L F' L' : Nat → Int) (i i' : Nat) (w : World) (hn : n ≤ 65536) (hn' : n' ≤ 65536) (hA : 0 < n → A = some ⟨b, off, none⟩) (hR : RangesAt w b off n F L) (hi : i < n)
    (hA' : 0 < n' → A' = some ⟨b', off', none⟩) (hR' : RangesAt w b' off' n' F' L') (hi' : i' < n') (hF : (F i == F' i') = true) (hL : (L i == L' i') = true) :
    Calls Try.prog 10 #[.slice A n cap, .int .i64 i, .slice A' n' cap', .int .i64 i'] w fun e w' => e = .returned (.bool true) ∧ Below w.heap.size w w' := by
  go_enter Try.func10, Try.ntmps10
  go_wp2_with fail
  refine (rangeAt_any A b off n cap F L i _ hn hA hR hi).mono ?_
  rintro e w1 ⟨rfl, hb1⟩
  go_wp2_with fail
  refine (rangeAt_any A' b' off' n' cap' F' L' i' _ hn' hA' (hR'.keep hb1) hi').mono ?_
  rintro e w2 ⟨rfl, hb2⟩
  go_wp2_with fail
  go_ret
  exact ⟨rfl, below2 hb1 hb2⟩

set_option maxHeartbeats 1000000 in
theorem isNewest_any (A A' : Option Addr) (b off cap b' off' n cap' : Nat) (F L : Nat → Int) (w : World) (hn : n ≤ 65536)
    (hA : 0 < keep n → A = some ⟨b, off, none⟩) (hR : RangesAt w b off (keep n) (fun i => F (n - keep n + i)) (fun i => L (n - keep n + i)))
    (hA' : 0 < n → A' = some ⟨b', off', none⟩) (hR' : RangesAt w b' off' n F L) :
    Calls Try.prog 9 #[.slice A (keep n) cap, .slice A' n cap'] w fun e w' => e = .returned (.bool true) ∧ Below w.heap.size w w' := by
  have hkn : keep n ≤ n := by unfold keep; omega
  go_enter Try.func9, Try.ntmps9
  go_wp2_with (go_at_call 21; refine (windowOf_any _ _).mono ?_; rintro e w' ⟨rfl, rfl⟩)
  go_loopg [6] (keep n) (fun g x wr => ∃ i : Nat, i ≤ keep n ∧ g = keep n - i ∧ x = .int .i64 i ∧ Below w'.heap.size w' wr)
  case atStart => exact ⟨0, Nat.zero_le _, rfl, rfl, Below.refl _ _⟩
  case round =>
    obtain ⟨i, hi, rfl, rfl, hB⟩ := hrel
    by_cases hlt : i < keep n
    · have hz : (i : Int) < (keep n : Int) := by omega
      obtain rfl := hA' (by omega)
      clear hA'
      go_wp2_with fail
      refine (rangeAt_any A b off (keep n) _ _ _ i _ (by omega) hA (hR.keep hB) hlt).mono ?_
      rintro e w1 ⟨rfl, hb1⟩
      have c1 := (hR'.keep (below2 hB hb1)).first (n - keep n + i) (by omega)
      have c2 := (hR'.keep (below2 hB hb1)).last (n - keep n + i) (by omega)
      go_wp2_with fail
      go_roundg (keep n - (i + 1))
      case measure => go_light; omega
      case rel => go_light; exact ⟨i + 1, by omega, rfl, by go_num, below2 hB hb1⟩
    · go_wp2_with fail
      go_ret
      exact ⟨rfl, hB⟩

def SomeBool (e : Ending) : Prop := ∃ bv, e = .returned (.bool bv)
theorem someBool_mk {bv : Bool} : SomeBool (.returned (.bool bv)) := ⟨bv, rfl⟩

set_option maxHeartbeats 1000000 in
theorem bytes6_any (A A' : Option Addr) (n m cap cap' : Nat) (w : World) :
    Calls Try.prog 6 #[.slice A n cap, .slice A' m cap'] w fun e w' => SomeBool e ∧ w' = w := by
  by_cases h1 : (1048576 : Int) < (n : Int)
  · go_enter Try.func6, Try.ntmps6
    go_wp2
    go_ret
    exact ⟨someBool_mk, rfl⟩
  by_cases h2 : (1048576 : Int) < (m : Int)
  · go_enter Try.func6, Try.ntmps6
    go_wp2
    go_ret
    exact ⟨someBool_mk, rfl⟩
  go_enter Try.func6, Try.ntmps6
  go_wp2
  all_goals
    go_ret
    exact ⟨someBool_mk, rfl⟩

set_option maxHeartbeats 1000000 in
theorem bytes11_any (A : Option Addr) (n cap : Nat) (x y : Int) (w : World) :
    Calls Try.prog 11 #[.slice A n cap, .agg #[.int .u64 x, .int .u64 y]] w fun e w' => SomeBool e ∧ Below w.heap.size w w' := by
  by_cases h1 : (1048576 : Int) < (n : Int)
  · go_enter Try.func11, Try.ntmps11
    go_wp2
    go_ret
    exact ⟨someBool_mk, (Below.refl _ _).alloc (Nat.le_refl _) _⟩
  go_enter Try.func11, Try.ntmps11
  go_wp2
  all_goals
    go_ret
    exact ⟨someBool_mk, (Below.refl _ _).alloc (Nat.le_refl _) _⟩

end Go.Proofs.Qxb6616089a
