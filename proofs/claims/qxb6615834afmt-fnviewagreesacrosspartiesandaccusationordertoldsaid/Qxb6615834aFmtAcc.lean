/-
  The accusations as they come in; zzToAccusations, zzBytes, zzGraphValid: the walks.
-/
import Derived.Test.Qxb6615834aFmtVal
import Derived.Lib.SliceRun
namespace Go.Proofs.Qxb6615834aFmt
open Go.RowKit Go.Deep

/-- The pairs of l lie from b's cell off on. -/
def IPAt (w : World) (b off : Nat) (l : List (Int × Int)) : Prop := ∀ i, i < l.length → w.cell? ⟨b, off + i * 2, none⟩ = some (.int .i64 (l[i]?.getD (0, 0)).1) ∧ w.cell? ⟨b, off + i * 2 + 1, none⟩ = some (.int .i64 (l[i]?.getD (0, 0)).2)

theorem IPAt.below {w w' : World} {B b off : Nat} {l : List (Int × Int)} (h : IPAt w b off l) (hb : Below B w w') (hlt : b < B) : IPAt w' b off l := fun i hi => by
  obtain ⟨h1, h2⟩ := h i hi
  exact ⟨(hb.cell (p := ⟨b, off + i * 2, none⟩) hlt).trans h1, (hb.cell (p := ⟨b, off + i * 2 + 1, none⟩) hlt).trans h2⟩

/-- The cells of a row of pairs of which the first j are laid. -/
def accC (l : List (Int × Int)) (j t : Nat) : Value := if t < j * 2 then .int .i64 (if t % 2 = 0 then (l[t / 2]?.getD (0, 0)).1 else (l[t / 2]?.getD (0, 0)).2) else .int .i64 0

theorem Tryf.info52 : (Tryf.prog.info? 52).map (fun i => (i.zero, i.size, i.bytes)) = some (some (.agg #[.int .i64 0, .int .i64 0]), 2, 16) := by kernel_rfl

theorem accC_succ {l : List (Int × Int)} {j t : Nat} : (if t = j * 2 + 1 then Value.int .i64 (l[j]?.getD (0, 0)).2 else if t = j * 2 then .int .i64 (l[j]?.getD (0, 0)).1 else accC l j t) = accC l (j + 1) t := by
  unfold accC
  by_cases h1 : t = j * 2 + 1
  · simp [h1]
    have e4 : (j * 2 + 1) / 2 = j := by omega
    have e5 : (j * 2 + 1) < (j + 1) * 2 := by omega
    simp [e4, e5]
  · by_cases h2 : t = j * 2
    · subst h2
      have e3 : j * 2 < (j + 1) * 2 := by omega
      have e4 : j * 2 / 2 = j := by omega
      simp [e3, e4]
    · have e3 : (t < (j + 1) * 2) ↔ (t < j * 2) := by omega
      simp [h1, h2, e3]

set_option maxRecDepth 100000 in
set_option maxHeartbeats 1000000 in
theorem toAcc_nil (c : Nat) (w : World) : Calls Tryf.prog 9 #[.slice none 0 c] w fun e w' => e = .returned (.slice none 0 0) ∧ w' = w := by
  have heq := Go.Lib.run_eql_slice_nil (P := Tryf.prog) w 27 43 none 0 c 0 0 Tryf.underlying27
  go_enter Tryf.func9, Tryf.ntmps9
  go_wp2_with fail
  go_ret
  exact ⟨rfl, rfl⟩

set_option maxRecDepth 100000 in
set_option maxHeartbeats 1000000 in
theorem toAcc_some (b off c : Nat) (l : List (Int × Int)) (w : World) (h : IPAt w b off l) (hb : l.length = 0 ∨ b < w.heap.size) (hl : l.length ≤ 1048576) :
    Calls Tryf.prog 9 #[.slice (some ⟨b, off, none⟩) l.length c] w fun e w' => e = .returned (.slice (some ⟨w.heap.size, 0, none⟩) l.length l.length) ∧ Below w.heap.size w w' ∧ w'.rowIs w.heap.size 52 (l.length * 2) (accC l l.length) ∧ w'.heap.size = w.heap.size + 1 := by
  obtain ⟨i0, hi, hz0, hz1, hz2⟩ := info_parts Tryf.info52
  have hmk := run_make (P := Tryf.prog) w 30 52 i0 (.agg #[.int .i64 0, .int .i64 0]) Tryf.underlying30 hi hz0 .i64 .i64 l.length l.length (by omega) (by omega) (by rw [hz2]; omega) (by omega)
  simp only [Int.toNat_natCast, hz1] at hmk
  have heq := Go.Lib.run_eql_slice_nil (P := Tryf.prog) w 27 43 (some ⟨b, off, none⟩) l.length c 0 0 Tryf.underlying27
  go_enter Tryf.func9, Tryf.ntmps9
  go_wp2_with fail
  obtain ⟨H, hH⟩ : ∃ H, w.heap.size = H := ⟨_, rfl⟩
  rw [hH]
  go_loopg [12] l.length (fun g x wr => ∃ j : Nat, j ≤ l.length ∧ g = l.length - j ∧ x = .int .i64 (j : Int) ∧ Below H w wr ∧ wr.rowIs H 52 (l.length * 2) (accC l j) ∧ wr.heap.size = H + 1)
  case atStart =>
    refine ⟨0, Nat.zero_le _, rfl, rfl, (Below.refl H w).alloc (by omega) _, ?_, by simp [hH]⟩
    have := World.rowIs_alloc w (madeCells #[.int .i64 0, .int .i64 0] (l.length * 2)) 52 (accC l 0) (fun i hi => by
      simp only [size_madeCells] at hi
      have : i % 2 = 0 ∨ i % 2 = 1 := by omega
      rcases this with e | e <;> simp [madeCells, hi, accC, e])
    rw [size_madeCells, hH] at this
    exact this
  case round =>
    obtain ⟨j, hj, rfl, rfl, hB, hr, hsz⟩ := hrel
    by_cases hjl : j < l.length
    · have hz : (j : Int) < (l.length : Int) := by omega
      obtain ⟨c1, c2⟩ := h j hjl
      have hs : ((wr.setCell ⟨H, j * 2, none⟩ (.int .i64 (l[j]?.getD (0, 0)).1)).setCell ⟨H, j * 2 + 1, none⟩ (.int .i64 (l[j]?.getD (0, 0)).2)).rowIs H 52 (l.length * 2) (accC l (j + 1)) := ((hr.set (j * 2) _).set (j * 2 + 1) _).congr (fun t _ => accC_succ)
      generalize l[j]?.getD (0, 0) = p at c1 c2 hs
      obtain ⟨p1, p2⟩ := p
      simp only at c1 c2 hs
      have hbH : b < H := by omega
      have d1 := (hB.cell (p := ⟨b, off + j * 2, none⟩) hbH).trans c1
      have d2 := (hB.cell (p := ⟨b, off + j * 2 + 1, none⟩) hbH).trans c2
      have e1 := hr.cell (i := j * 2) (by omega)
      have e2 := hr.cell (i := j * 2 + 1) (by omega)
      have f1 := hr.frozen (j * 2)
      have f2 := hr.frozen (j * 2 + 1)
      have hB' := (hB.setCell (p := ⟨H, j * 2, none⟩) (Nat.le_refl _) (.int .i64 p1)).setCell (p := ⟨H, j * 2 + 1, none⟩) (Nat.le_refl _) (.int .i64 p2)
      go_wp2_with fail
      go_roundg (l.length - (j + 1))
      case measure => omega
      case rel => exact ⟨j + 1, by omega, rfl, by go_num, hB', hs, by simpa using hsz⟩
    · have hz : ¬ ((j : Int) < (l.length : Int)) := by omega
      obtain rfl : j = l.length := by omega
      go_wp2_with fail
      go_ret
      exact ⟨rfl, hB, hr, hsz⟩

theorem ipAt_of_row {w : World} {b : Nat} {l : List (Int × Int)} (h : w.rowIs b 52 (l.length * 2) (accC l l.length)) : IPAt w b 0 l := fun i hi => by
  have h1 := h.cell (i := i * 2) (by omega)
  have h2 := h.cell (i := i * 2 + 1) (by omega)
  have e1 : i * 2 < l.length * 2 := by omega
  have e2 : i * 2 + 1 < l.length * 2 := by omega
  have e3 : (i * 2 + 1) / 2 = i := by omega
  have e4 : (i * 2 + 1) % 2 = 1 := by omega
  have e5 : i * 2 / 2 = i := by omega
  have e6 : i * 2 % 2 = 0 := by omega
  rw [accC, if_pos e1, e5, e6, if_pos rfl] at h1
  rw [accC, if_pos e2, e3, e4, if_neg (by omega)] at h2
  rw [Nat.zero_add]
  exact ⟨h1, h2⟩

set_option maxHeartbeats 1000000 in
theorem zzBytes_any (n t s p : Int) (A : Option Addr) (k c : Nat) (w : World) (hk : k ≤ 1048576) : Calls Tryf.prog 8 #[.int .i64 n, .int .i64 t, .int .i64 s, .slice A k c, .int .i64 p] w fun e w' => e = .returned (.bool true) ∧ w' = w := by
  have h1 : ¬ ((1048576 : Int) < (k : Int)) := by omega
  go_enter Tryf.func8, Tryf.ntmps8
  go_wp2_with fail
  go_ret
  exact ⟨rfl, rfl⟩

set_option maxHeartbeats 1000000 in
theorem zzBytes_no (n t s p : Int) (A : Option Addr) (k c : Nat) (w : World) (hk : 1048576 < k) : Calls Tryf.prog 8 #[.int .i64 n, .int .i64 t, .int .i64 s, .slice A k c, .int .i64 p] w fun e w' => e = .returned (.bool false) ∧ w' = w := by
  have h1 : (1048576 : Int) < (k : Int) := by omega
  go_enter Tryf.func8, Tryf.ntmps8
  go_wp2_with fail
  go_ret
  exact ⟨rfl, rfl⟩

/-- A fact that no walk looks into. -/
def Kept (p : Prop) : Prop := p
theorem Kept.of {p : Prop} (h : p) : Kept p := h

/-- A pair that accuses, among n parties. -/
def okP (n : Int) (p : Int × Int) : Prop := 1 ≤ p.1 ∧ p.1 ≤ n ∧ 1 ≤ p.2 ∧ p.2 ≤ n ∧ p.1 ≠ p.2
/-- Every pair is one that accuses. -/
noncomputable def validB (n : Int) (l : List (Int × Int)) : Bool := @decide (∀ i, i < l.length → okP n (l[i]?.getD (0, 0))) (Classical.propDecidable _)
theorem validB_true {n : Int} {l : List (Int × Int)} : validB n l = true ↔ ∀ i, i < l.length → okP n (l[i]?.getD (0, 0)) := by
  unfold validB
  exact @decide_eq_true_iff _ (Classical.propDecidable _)
theorem validB_no {n : Int} {l : List (Int × Int)} {i : Nat} (hi : i < l.length) (h : ¬ okP n (l[i]?.getD (0, 0))) : validB n l = false := by
  cases e : validB n l
  · rfl
  · exact absurd (validB_true.1 e i hi) h
def headOk (n t s : Int) : Prop := 2 ≤ n ∧ n ≤ 1024 ∧ 0 ≤ t ∧ t < n ∧ 1 ≤ s ∧ s ≤ n

set_option maxRecDepth 100000 in
set_option maxHeartbeats 1000000 in
theorem valid_head (n t s : Int) (v : Value) (w : World) (h : ¬ headOk n t s) : Calls Tryf.prog 11 #[.int .i64 n, .int .i64 t, .int .i64 s, v] w fun e w' => e = .returned (.bool false) ∧ w' = w := by
  unfold headOk at h
  by_cases h1 : n < 2
  · go_enter Tryf.func11, Tryf.ntmps11
    go_wp2_with fail
    go_ret
    exact ⟨rfl, rfl⟩
  by_cases h2 : 1024 < n
  · go_enter Tryf.func11, Tryf.ntmps11
    go_wp2_with fail
    go_ret
    exact ⟨rfl, rfl⟩
  by_cases h3 : t < 0
  · go_enter Tryf.func11, Tryf.ntmps11
    go_wp2_with fail
    go_ret
    exact ⟨rfl, rfl⟩
  by_cases h4 : n ≤ t
  · go_enter Tryf.func11, Tryf.ntmps11
    go_wp2_with fail
    go_ret
    exact ⟨rfl, rfl⟩
  by_cases h5 : s < 1
  · go_enter Tryf.func11, Tryf.ntmps11
    go_wp2_with fail
    go_ret
    exact ⟨rfl, rfl⟩
  have h6 : n < s := by omega
  go_enter Tryf.func11, Tryf.ntmps11
  go_wp2_with fail
  go_ret
  exact ⟨rfl, rfl⟩

set_option maxRecDepth 100000 in
set_option maxHeartbeats 2000000 in
theorem valid_any (n t s : Int) (A : Option Addr) (b off c : Nat) (l : List (Int × Int)) (w : World) (hh : headOk n t s) (hA : 0 < l.length → A = some ⟨b, off, none⟩) (h : IPAt w b off l) (hl : l.length ≤ 1048576) :
    Calls Tryf.prog 11 #[.int .i64 n, .int .i64 t, .int .i64 s, .slice A l.length c] w fun e w' => e = .returned (.bool (validB n l)) ∧ w' = w := by
  obtain ⟨h1, h2, h3, h4, h5, h6⟩ := hh
  go_enter Tryf.func11, Tryf.ntmps11
  go_wp2_with fail
  go_loopg [36] l.length (fun g x wr => ∃ j : Nat, j ≤ l.length ∧ g = l.length - j ∧ x = .int .i64 (j : Int) ∧ (∀ i, i < j → okP n (l[i]?.getD (0, 0))) ∧ wr = w)
  case atStart => exact ⟨0, Nat.zero_le _, rfl, rfl, fun i hi => by omega, rfl⟩
  case round =>
    obtain ⟨j, hj, rfl, rfl, hok, rfl⟩ := hrel
    by_cases hjl : j < l.length
    · have hz : (j : Int) < (l.length : Int) := by omega
      obtain rfl := hA (by omega)
      obtain ⟨c1, c2⟩ := h j hjl
      have hnx : okP n (l[j]?.getD (0, 0)) → ∀ i, i < j + 1 → okP n (l[i]?.getD (0, 0)) := fun hp i hi => by
        by_cases e : i = j
        · subst e; exact hp
        · exact hok i (by omega)
      have hbad : ¬ okP n (l[j]?.getD (0, 0)) → Kept (validB n l = false) := fun hp => validB_no hjl hp
      generalize hpE : l[j]?.getD (0, 0) = p at c1 c2 hnx hbad
      clear hpE
      obtain ⟨p1, p2⟩ := p
      simp only at c1 c2
      unfold okP at hnx hbad
      simp only at hnx hbad
      clear hok h
      by_cases g1 : p1 < 1
      · replace hbad := hbad (by omega)
        clear hnx
        go_wp2_with fail
        go_ret
        unfold Kept at hbad
        exact ⟨by rw [hbad]; rfl, rfl⟩
      by_cases g2 : n < p1
      · replace hbad := hbad (by omega)
        clear hnx
        go_wp2_with fail
        go_ret
        unfold Kept at hbad
        exact ⟨by rw [hbad]; rfl, rfl⟩
      by_cases g3 : p2 < 1
      · replace hbad := hbad (by omega)
        clear hnx
        go_wp2_with fail
        go_ret
        unfold Kept at hbad
        exact ⟨by rw [hbad]; rfl, rfl⟩
      by_cases g4 : n < p2
      · replace hbad := hbad (by omega)
        clear hnx
        go_wp2_with fail
        go_ret
        unfold Kept at hbad
        exact ⟨by rw [hbad]; rfl, rfl⟩
      by_cases g5 : p1 = p2
      · replace hbad := hbad (by omega)
        clear hnx
        go_wp2_with fail
        go_ret
        unfold Kept at hbad
        exact ⟨by rw [hbad]; rfl, rfl⟩
      replace hnx := Kept.of (hnx (by omega))
      clear hbad
      go_wp2_with fail
      go_roundg (l.length - (j + 1))
      case measure => omega
      case rel => exact ⟨j + 1, by omega, rfl, by go_num, hnx, rfl⟩
    · have hz : ¬ ((j : Int) < (l.length : Int)) := by omega
      obtain rfl : j = l.length := by omega
      go_wp2_with fail
      go_ret
      exact ⟨by rw [validB_true.2 hok]; rfl, rfl⟩

end Go.Proofs.Qxb6615834aFmt
