/-
  zzReach: the walk.
-/
import Derived.Test.Qxb6615834aFmtZz2
namespace Go.Proofs.Qxb6615834aFmt
open Go.RowKit Go.Deep

/-- The marks: party x at x + 1. -/
def mkB (M : Nat → Bool) (k : Nat) : Bool := decide (1 ≤ k) && M (k - 1)
def MkAt (w : World) (b n : Nat) (M : Nat → Bool) : Prop := w.rowIs b 4 (n + 1) (fun k => .bool (mkB M k))

theorem MkAt.at {w : World} {b n x : Nat} {M : Nat → Bool} (h : MkAt w b n M) (hx : x < n) : w.cell? ⟨b, x + 1, none⟩ = some (.bool (M x)) := by
  have := World.rowIs.cell h (i := x + 1) (by omega)
  simpa [mkB] using this

theorem MkAt.put {w : World} {b n : Nat} {M : Nat → Bool} (h : MkAt w b n M) (x : Nat) : MkAt (w.setCell ⟨b, x + 1, none⟩ (.bool true)) b n (putB M x true) := by
  refine (World.rowIs.set h (x + 1) (.bool true)).congr fun k _ => ?_
  by_cases e : k = x + 1
  · rw [if_pos e, e]
    simp [mkB, putB]
  · rw [if_neg e]
    unfold mkB putB
    by_cases e1 : 1 ≤ k
    · have : k - 1 ≠ x := by omega
      simp [e1, this]
    · simp [e1]

structure RAt (w : World) (H n : Nat) (M : Nat → Bool) (W : World) : Prop where
  below : Below H w W
  mrk : MkAt W H n M
  size : W.heap.size = H + 1

theorem RAt.put {w W : World} {H n : Nat} {M : Nat → Bool} (h : RAt w H n M W) (x : Nat) : RAt w H n (putB M x true) (W.setCell ⟨H, x + 1, none⟩ (.bool true)) :=
  ⟨h.below.setCell (p := ⟨H, x + 1, none⟩) (Nat.le_refl _) _, h.mrk.put x, by simpa using h.size⟩

/-- What zzReach leaves. -/
structure ROut (w : World) (H n p : Nat) (N : Nat → Nat → Bool) (W : World) : Prop where
  out : ∃ M, (∀ x, M x = true ↔ x < n ∧ Reach N p x) ∧ RAt w H n M W

set_option maxRecDepth 100000 in
set_option maxHeartbeats 8000000 in
theorem zzReach_any (bA n p nn cap : Nat) (N : Nat → Nat → Bool) (w : World) (h : AdjAt w bA n N) (hg : Gr N n) (hp : p < n) (hn : n ≤ 1024) (hnn : (n + 1) * (n + 1) = nn) :
    Calls Tryf.prog 13 #[.slice (some ⟨bA, 0, none⟩) nn cap, .int .i64 (n : Int), .int .i64 ((p : Int) + 1)] w fun e w' => e = .returned (.slice (some ⟨w.heap.size, 0, none⟩) (n + 1) (n + 1)) ∧ ROut w w.heap.size n p N w' := by
  have hnb : nn ≤ 1025 * 1025 := by rw [← hnn]; exact Nat.mul_le_mul (by omega) (by omega)
  have hmk := run_make_row' (P := Tryf.prog) 38 4 (.bool false) 1 Tryf.underlying38 Tryf.info4 rfl .i64 .i64 (n + 1) (by omega) (by omega)
  simp only [Int.natCast_add, Int.cast_ofNat_Int] at hmk
  obtain ⟨H, hH⟩ : ∃ H, w.heap.size = H := ⟨_, rfl⟩
  have hbl : bA < H := by rw [← hH]; exact World.rowIs.lt h
  have hpz : (p : Int) + 1 < (n : Int) + 1 := by omega
  have r0 : RAt w H n (fun _ => false) (w.alloc (.cells (madeCells #[.bool false] (n + 1)) 4)) := by
    refine ⟨(Below.refl H w).alloc (by omega) _, ?_, by simp [hH]⟩
    have := World.rowIs_made w (.bool false) (n + 1) 4
    rw [hH] at this
    exact this.congr fun k _ => by simp [mkB]
  have r1 := r0.put p
  rw [hH]
  generalize hX0 : w.alloc (.cells (madeCells #[.bool false] (n + 1)) 4) = X0 at r0 r1
  have x0 := World.rowIs.cell r0.mrk (i := p + 1) (by omega)
  have x1 := World.rowIs.frozen r0.mrk (p + 1)
  generalize hX1 : X0.setCell ⟨H, p + 1, none⟩ (.bool true) = X1 at r1
  clear r0
  go_enter Tryf.func13, Tryf.ntmps13
  go_wp2_with fail
  clear hX0 hX1 x0 x1 hmk
  go_loopg [9] n (fun g x wr => ∃ (k : Nat) (M : Nat → Bool), k ≤ n ∧ g = n - k ∧ x = .int .i64 (k : Int) ∧ RInv N n p M ∧ k + 1 ≤ cnt M n ∧ RAt w H n M wr)
  case atStart => exact ⟨0, _, Nat.zero_le _, rfl, rfl, RInv.start N hp, cnt_start hp, r1⟩
  case round =>
    clear r1
    obtain ⟨k, M, hk, rfl, rfl, hI, hc, hr⟩ := hrel
    have hcl := cnt_le M n
    have hkz : (k : Int) < (n : Int) := by omega
    have hsw := Rsw.begin hI (E := k + 1) hc
    clear hI hc hcl
    go_wp2_with fail
    go_loopg [11, 10] n (fun g x r wr => ∃ (a : Nat) (rb : Bool) (M : Nat → Bool), a ≤ n ∧ g = n - a ∧ x = .int .i64 ((a : Int) + 1) ∧ r = .bool rb ∧ Rsw N n p M (k + 1) a 0 rb ∧ RAt w H n M wr)
    case atStart => exact ⟨0, false, M, Nat.zero_le _, rfl, rfl, rfl, hsw, hr⟩
    case round =>
      clear hsw hr
      obtain ⟨a, rb, M, ha, rfl, rfl, rfl, hsw, hr⟩ := hrel
      by_cases han : a < n
      · have haz : (a : Int) + 1 ≤ (n : Int) := by omega
        have haz2 : (a : Int) + 1 < (n : Int) + 1 := by omega
        have c1 := hr.mrk.at han
        cases hM : M a with
        | false =>
          rw [hM] at c1
          have hsw' := hsw.pass hM
          clear hsw hM
          go_wp2_with fail
          go_roundg (n - (a + 1))
          case measure => omega
          case rel => exact ⟨a + 1, rb, M, by omega, rfl, by go_num, rfl, hsw', hr⟩
        | true =>
          rw [hM] at c1
          obtain ⟨q, hq⟩ : ∃ q, (a + 1) * (n + 1) = q := ⟨_, rfl⟩
          have hqi : ((a : Int) + 1) * ((n : Int) + 1) = (q : Int) := by rw [← hq]; simp
          go_wp2_with fail
          clear c1
          replace hM := Kept.of hM
          go_loopg [12, 10] n (fun g x r wr => ∃ (i : Nat) (rb : Bool) (M : Nat → Bool), i ≤ n ∧ g = n - i ∧ x = .int .i64 ((i : Int) + 1) ∧ r = .bool rb ∧ M a = true ∧ Rsw N n p M (k + 1) a i rb ∧ RAt w H n M wr)
          case atStart => exact ⟨0, rb, M, Nat.zero_le _, rfl, rfl, rfl, hM, hsw, hr⟩
          case round =>
            clear hsw hr hM
            obtain ⟨i, rb, M, hi, rfl, rfl, rfl, hM, hsw, hr⟩ := hrel
            replace hM := Kept.of hM
            by_cases hin : i < n
            · have hiz : (i : Int) + 1 ≤ (n : Int) := by omega
              have hiz2 : (i : Int) + 1 < (n : Int) + 1 := by omega
              have b1 := ix_lt han hin
              rw [hq, hnn] at b1
              have b3 : (q : Int) + ((i : Int) + 1) < (nn : Int) := by omega
              have c0 := World.rowIs.cell h (i := q + (i + 1)) (by omega)
              have c1 := (hr.below.cell (p := ⟨bA, q + (i + 1), none⟩) hbl).trans c0
              have c2 := hr.mrk.at hin
              have c3 := World.rowIs.frozen hr.mrk (i + 1)
              by_cases hai : a = i
              · have hv : adjB N n (q + (i + 1)) = false := by
                  rw [← hq]
                  unfold adjB
                  rw [ix_div hin, ix_mod hin, hai]
                  simp
                rw [hv] at c1
                have hsw' := hsw.skip (fun h1 _ => by rw [← hai]; exact h1)
                replace hai := Kept.of hai
                clear hsw c2 hv c0
                go_wp2_with fail
                go_roundg (n - (i + 1))
                case measure => omega
                case rel => exact ⟨i + 1, rb, M, by omega, rfl, by go_num, rfl, hM, hsw', hr⟩
              · rw [← hq, adjB_at hin hai, hq] at c1
                clear c0
                cases hN : N a i with
                | false =>
                  rw [hN] at c1
                  have hsw' := hsw.skip (fun _ e => by rw [hN] at e; cases e)
                  clear hsw c2 hN
                  go_wp2_with fail
                  go_roundg (n - (i + 1))
                  case measure => omega
                  case rel => exact ⟨i + 1, rb, M, by omega, rfl, by go_num, rfl, hM, hsw', hr⟩
                | true =>
                  rw [hN] at c1
                  cases hMi : M i with
                  | true =>
                    rw [hMi] at c2
                    have hsw' := hsw.skip (fun _ _ => hMi)
                    clear hsw hN hMi
                    go_wp2_with fail
                    go_roundg (n - (i + 1))
                    case measure => omega
                    case rel => exact ⟨i + 1, rb, M, by omega, rfl, by go_num, rfl, hM, hsw', hr⟩
                  | false =>
                    rw [hMi] at c2
                    have hsw' := hsw.mark hin hM hN hMi
                    have hr' := hr.put i
                    have hM' : Kept (putB M i true a = true) := by
                      unfold Kept putB at *
                      rw [if_neg hai]
                      exact hM
                    clear hsw hN hMi hr hM
                    go_wp2_with fail
                    go_roundg (n - (i + 1))
                    case measure => omega
                    case rel => exact ⟨i + 1, true, _, by omega, rfl, by go_num, rfl, hM', hsw', hr'⟩
            · have hiz : ¬ ((i : Int) + 1 ≤ (n : Int)) := by omega
              have hsw' := hsw.next (by omega)
              clear hsw
              go_wp2_with fail
              go_roundg (n - (a + 1))
              case measure => omega
              case rel => exact ⟨a + 1, rb, M, by omega, rfl, by go_num, rfl, hsw', hr⟩
      · have haz : ¬ ((a : Int) + 1 ≤ (n : Int)) := by omega
        cases rb with
        | false =>
          have hen := Kept.of (fun x => hsw.ends hg.lt (by omega) x)
          clear hsw
          go_wp2_with fail
          go_ret
          exact ⟨rfl, M, hen, hr⟩
        | true =>
          have hin := hsw.inv
          have hmany := hsw.many
          simp only [if_true] at hmany
          clear hsw
          have hcl := cnt_le M n
          go_wp2_with fail
          go_roundg (n - (k + 1))
          case measure => omega
          case rel => exact ⟨k + 1, M, by omega, rfl, by go_num, hin, hmany, hr⟩

end Go.Proofs.Qxb6615834aFmt
