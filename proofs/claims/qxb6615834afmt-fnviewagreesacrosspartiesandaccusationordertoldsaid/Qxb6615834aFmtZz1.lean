/-
  The model's matrix in memory; zzCommon, zzIntsEqual, zzPairsEqual: the walks.
-/
import Derived.Test.Qxb6615834aFmtZPlain
import Derived.Test.Qxb6615834aFmtAcc
namespace Go.Proofs.Qxb6615834aFmt
open Go.RowKit Go.Deep

def adjB (N : Nat → Nat → Bool) (n k : Nat) : Bool := decide (1 ≤ k / (n + 1)) && decide (1 ≤ k % (n + 1)) && !decide (k / (n + 1) = k % (n + 1)) && N (k / (n + 1) - 1) (k % (n + 1) - 1)
def prB (P : Nat → Nat → Bool) (n k : Nat) : Bool := decide (1 ≤ k / (n + 1)) && decide (1 ≤ k % (n + 1)) && P (k / (n + 1) - 1) (k % (n + 1) - 1)
/-- The model's graph: at (x + 1) * (n + 1) + y + 1, x and y joined, apart from themselves. -/
def AdjAt (w : World) (b n : Nat) (N : Nat → Nat → Bool) : Prop := w.rowIs b 4 ((n + 1) * (n + 1)) (fun k => .bool (adjB N n k))
def PrAt (w : World) (b n : Nat) (P : Nat → Nat → Bool) : Prop := w.rowIs b 4 ((n + 1) * (n + 1)) (fun k => .bool (prB P n k))

theorem ix_div {n x y : Nat} (hy : y < n) : ((x + 1) * (n + 1) + (y + 1)) / (n + 1) = x + 1 := by
  rw [Nat.mul_comm, Nat.mul_add_div (by omega), Nat.div_eq_of_lt (by omega)]
theorem ix_mod {n x y : Nat} (hy : y < n) : ((x + 1) * (n + 1) + (y + 1)) % (n + 1) = y + 1 := by
  rw [Nat.mul_comm, Nat.mul_add_mod, Nat.mod_eq_of_lt (by omega)]
theorem ix_lt {n x y : Nat} (hx : x < n) (hy : y < n) : (x + 1) * (n + 1) + (y + 1) < (n + 1) * (n + 1) := by
  have : (x + 1 + 1) * (n + 1) ≤ (n + 1) * (n + 1) := Nat.mul_le_mul_right _ (by omega)
  rw [Nat.succ_mul] at this
  omega
theorem ix_eq {n x y k : Nat} (hy : y < n) : k = (x + 1) * (n + 1) + (y + 1) ↔ k / (n + 1) = x + 1 ∧ k % (n + 1) = y + 1 := by
  constructor
  · rintro rfl
    exact ⟨ix_div hy, ix_mod hy⟩
  · rintro ⟨h1, h2⟩
    rw [← h1, ← h2, Nat.mul_comm]
    exact (Nat.div_add_mod k (n + 1)).symm

theorem adjB_at {N : Nat → Nat → Bool} {n x y : Nat} (hy : y < n) (hxy : x ≠ y) : adjB N n ((x + 1) * (n + 1) + (y + 1)) = N x y := by
  unfold adjB
  rw [ix_div hy, ix_mod hy]
  simp [hxy]
theorem prB_at {P : Nat → Nat → Bool} {n x y : Nat} (hy : y < n) : prB P n ((x + 1) * (n + 1) + (y + 1)) = P x y := by
  unfold prB
  rw [ix_div hy, ix_mod hy]
  simp

theorem AdjAt.at {w : World} {b n x y q : Nat} {N : Nat → Nat → Bool} (h : AdjAt w b n N) (hx : x < n) (hy : y < n) (hxy : x ≠ y) (hq : (x + 1) * (n + 1) = q) : w.cell? ⟨b, q + (y + 1), none⟩ = some (.bool (N x y)) := by
  have := World.rowIs.cell h (ix_lt hx hy)
  rw [adjB_at hy hxy, hq] at this
  exact this
theorem PrAt.at {w : World} {b n x y q : Nat} {P : Nat → Nat → Bool} (h : PrAt w b n P) (hx : x < n) (hy : y < n) (hq : (x + 1) * (n + 1) = q) : w.cell? ⟨b, q + (y + 1), none⟩ = some (.bool (P x y)) := by
  have := World.rowIs.cell h (ix_lt hx hy)
  rw [prB_at hy, hq] at this
  exact this

theorem AdjAt.put {w : World} {b n x y q : Nat} {N : Nat → Nat → Bool} (h : AdjAt w b n N) (hy : y < n) (hxy : x ≠ y) (hq : (x + 1) * (n + 1) = q) (v : Bool) : AdjAt (w.setCell ⟨b, q + (y + 1), none⟩ (.bool v)) b n (putN N x y v) := by
  refine (World.rowIs.set h (q + (y + 1)) (.bool v)).congr fun k _ => ?_
  by_cases e : k = q + (y + 1)
  · rw [if_pos e, e, ← hq, adjB_at hy hxy, putN_at]
    simp
  · rw [if_neg e]
    unfold adjB
    rw [putN_at]
    by_cases e1 : 1 ≤ k / (n + 1)
    · by_cases e2 : 1 ≤ k % (n + 1)
      · rw [if_neg]
        rintro ⟨h1, h2⟩
        apply e
        rw [← hq]
        exact (ix_eq hy).2 ⟨by omega, by omega⟩
      · simp [e2]
    · simp [e1]

theorem PrAt.put {w : World} {b n x y q : Nat} {P : Nat → Nat → Bool} (h : PrAt w b n P) (hy : y < n) (hq : (x + 1) * (n + 1) = q) (v : Bool) : PrAt (w.setCell ⟨b, q + (y + 1), none⟩ (.bool v)) b n (putN P x y v) := by
  refine (World.rowIs.set h (q + (y + 1)) (.bool v)).congr fun k _ => ?_
  by_cases e : k = q + (y + 1)
  · rw [if_pos e, e, ← hq, prB_at hy, putN_at]
    simp
  · rw [if_neg e]
    unfold prB
    rw [putN_at]
    by_cases e1 : 1 ≤ k / (n + 1)
    · by_cases e2 : 1 ≤ k % (n + 1)
      · rw [if_neg]
        rintro ⟨h1, h2⟩
        apply e
        rw [← hq]
        exact (ix_eq hy).2 ⟨by omega, by omega⟩
      · simp [e2]
    · simp [e1]

theorem AdjAt.congr {w : World} {b n : Nat} {N N' : Nat → Nat → Bool} (h : AdjAt w b n N) (e : ∀ x y, x < n → y < n → x ≠ y → N x y = N' x y) : AdjAt w b n N' :=
  World.rowIs.congr h fun k hk => by
    have hk1 : k / (n + 1) < n + 1 := Nat.div_lt_of_lt_mul hk
    have hk2 : k % (n + 1) < n + 1 := Nat.mod_lt _ (by omega)
    unfold adjB
    by_cases e1 : 1 ≤ k / (n + 1)
    · by_cases e2 : 1 ≤ k % (n + 1)
      · by_cases e3 : k / (n + 1) = k % (n + 1)
        · simp [e3]
        · rw [e _ _ (by omega) (by omega) (by omega)]
      · simp [e2]
    · simp [e1]

set_option maxRecDepth 100000 in
set_option maxHeartbeats 4000000 in
theorem zzCommon_any (bA n x y cap nn : Nat) (N : Nat → Nat → Bool) (w : World) (h : AdjAt w bA n N) (hg : Gr N n) (hx : x < n) (hy : y < n) (hn : n ≤ 1024) (hnn : (n + 1) * (n + 1) = nn) :
    Calls Tryf.prog 27 #[.slice (some ⟨bA, 0, none⟩) nn cap, .int .i64 (n : Int), .int .i64 ((x : Int) + 1), .int .i64 ((y : Int) + 1)] w fun e w' => e = .returned (.int .i64 (comm N n x y : Int)) ∧ w' = w := by
  obtain ⟨q, hq⟩ : ∃ q, (x + 1) * (n + 1) = q := ⟨_, rfl⟩
  obtain ⟨r, hr⟩ : ∃ r, (y + 1) * (n + 1) = r := ⟨_, rfl⟩
  have hqi : ((x : Int) + 1) * ((n : Int) + 1) = (q : Int) := by rw [← hq]; simp
  have hri : ((y : Int) + 1) * ((n : Int) + 1) = (r : Int) := by rw [← hr]; simp
  have hnb : nn ≤ 1025 * 1025 := by rw [← hnn]; exact Nat.mul_le_mul (by omega) (by omega)
  go_enter Tryf.func27, Tryf.ntmps27
  go_wp2_with fail
  go_loopg [11, 10] n (fun g v ct wr => ∃ j : Nat, j ≤ n ∧ g = n - j ∧ v = .int .i64 ((j : Int) + 1) ∧ ct = .int .i64 (cnt (both (N x) (N y)) j : Int) ∧ wr = w)
  case atStart => exact ⟨0, Nat.zero_le _, rfl, rfl, rfl, rfl⟩
  case round =>
    obtain ⟨j, hj, rfl, rfl, rfl, rfl⟩ := hrel
    by_cases hjn : j < n
    · have hz : (j : Int) + 1 ≤ (n : Int) := by omega
      have hq2 := ix_lt hx hjn
      have hr2 := ix_lt hy hjn
      rw [hq, hnn] at hq2
      rw [hr, hnn] at hr2
      have hq3 : (q : Int) + ((j : Int) + 1) < (nn : Int) := by omega
      have hr3 : (r : Int) + ((j : Int) + 1) < (nn : Int) := by omega
      have hcnt : cnt (both (N x) (N y)) (j + 1) = cnt (both (N x) (N y)) j + (if both (N x) (N y) j then 1 else 0) := rfl
      have hcl := cnt_le (both (N x) (N y)) j
      have hv : both (N x) (N y) j = (N x j && N y j) := rfl
      have hxj : x = j → N x j = true := fun e => by subst e; exact hg.refl x hx
      have hyj : y = j → N y j = true := fun e => by subst e; exact hg.refl y hy
      have cx : x ≠ j → wr.cell? ⟨bA, q + (j + 1), none⟩ = some (.bool (N x j)) := fun e => h.at hx hjn e hq
      have cy : y ≠ j → wr.cell? ⟨bA, r + (j + 1), none⟩ = some (.bool (N y j)) := fun e => h.at hy hjn e hr
      generalize N x j = ux at hv hxj cx
      generalize N y j = uy at hv hyj cy
      generalize cnt (both (N x) (N y)) j = ct at hcnt hcl
      rw [hv] at hcnt
      generalize hct2 : cnt (both (N x) (N y)) (j + 1) = ct2 at hcnt
      replace hct2 := Kept.of hct2
      have hct : (ct2 : Int) = (ct : Int) + (if (ux && uy) = true then 1 else 0) := by rw [hcnt]; split <;> simp
      clear hcnt
      clear hv h hg
      by_cases e1 : x = j
      · have hu := hxj e1
        subst hu
        have d1 : (j : Int) + 1 = (x : Int) + 1 := by omega
        clear hxj cx
        by_cases e2 : y = j
        · have hu := hyj e2
          subst hu
          have d2 : (j : Int) + 1 = (y : Int) + 1 := by omega
          clear hyj cy
          rw [if_pos (by rfl)] at hct
          have hct' := hct.symm
          clear hct
          go_wp2_with fail
          go_roundg (n - (j + 1))
          case measure => omega
          case rel => exact ⟨j + 1, by omega, rfl, by go_num, by unfold Kept at hct2; rw [hct2], rfl⟩
        · have d2 : ¬ ((j : Int) + 1 = (y : Int) + 1) := by omega
          replace cy := cy e2
          clear hyj
          cases uy
          · rw [if_neg (by decide), Int.add_zero] at hct
            have hct' := hct.symm
            clear hct
            go_wp2_with fail
            go_roundg (n - (j + 1))
            case measure => omega
            case rel => exact ⟨j + 1, by omega, rfl, by go_num, by unfold Kept at hct2; rw [hct2], rfl⟩
          · rw [if_pos (by rfl)] at hct
            have hct' := hct.symm
            clear hct
            go_wp2_with fail
            go_roundg (n - (j + 1))
            case measure => omega
            case rel => exact ⟨j + 1, by omega, rfl, by go_num, by unfold Kept at hct2; rw [hct2], rfl⟩
      · have d1 : ¬ ((j : Int) + 1 = (x : Int) + 1) := by omega
        replace cx := cx e1
        clear hxj
        by_cases e2 : y = j
        · have hu := hyj e2
          subst hu
          have d2 : (j : Int) + 1 = (y : Int) + 1 := by omega
          clear hyj cy
          cases ux
          · rw [if_neg (by decide), Int.add_zero] at hct
            have hct' := hct.symm
            clear hct
            go_wp2_with fail
            go_roundg (n - (j + 1))
            case measure => omega
            case rel => exact ⟨j + 1, by omega, rfl, by go_num, by unfold Kept at hct2; rw [hct2], rfl⟩
          · rw [if_pos (by rfl)] at hct
            have hct' := hct.symm
            clear hct
            go_wp2_with fail
            go_roundg (n - (j + 1))
            case measure => omega
            case rel => exact ⟨j + 1, by omega, rfl, by go_num, by unfold Kept at hct2; rw [hct2], rfl⟩
        · have d2 : ¬ ((j : Int) + 1 = (y : Int) + 1) := by omega
          replace cy := cy e2
          clear hyj
          cases ux
          · cases uy
            · rw [if_neg (by decide), Int.add_zero] at hct
              have hct' := hct.symm
              clear hct
              go_wp2_with fail
              go_roundg (n - (j + 1))
              case measure => omega
              case rel => exact ⟨j + 1, by omega, rfl, by go_num, by unfold Kept at hct2; rw [hct2], rfl⟩
            · rw [if_neg (by decide), Int.add_zero] at hct
              have hct' := hct.symm
              clear hct
              go_wp2_with fail
              go_roundg (n - (j + 1))
              case measure => omega
              case rel => exact ⟨j + 1, by omega, rfl, by go_num, by unfold Kept at hct2; rw [hct2], rfl⟩
          · cases uy
            · rw [if_neg (by decide), Int.add_zero] at hct
              have hct' := hct.symm
              clear hct
              go_wp2_with fail
              go_roundg (n - (j + 1))
              case measure => omega
              case rel => exact ⟨j + 1, by omega, rfl, by go_num, by unfold Kept at hct2; rw [hct2], rfl⟩
            · rw [if_pos (by rfl)] at hct
              have hct' := hct.symm
              clear hct
              go_wp2_with fail
              go_roundg (n - (j + 1))
              case measure => omega
              case rel => exact ⟨j + 1, by omega, rfl, by go_num, by unfold Kept at hct2; rw [hct2], rfl⟩
    · have hz : ¬ ((j : Int) + 1 ≤ (n : Int)) := by omega
      obtain rfl : j = n := by omega
      go_wp2_with fail
      go_ret
      exact ⟨rfl, rfl⟩

end Go.Proofs.Qxb6615834aFmt
