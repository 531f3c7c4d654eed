/-
  zzIntsEqual, zzPairsEqual: the walks.
-/
import Derived.Test.Qxb6615834aFmtView
namespace Go.Proofs.Qxb6615834aFmt
open Go.RowKit Go.Deep

set_option maxHeartbeats 1000000 in
theorem intsEq_any (g1 g2 c1 c2 : Nat) (xs : List Nat) (w : World) (h1 : IntsAt w g1 xs) (h2 : IntsAt w g2 xs) (hl : xs.length ≤ 1048576) :
    Calls Tryf.prog 14 #[.slice (some ⟨g1, 0, none⟩) xs.length c1, .slice (some ⟨g2, 0, none⟩) xs.length c2] w fun e w' => e = .returned (.bool true) ∧ Drew w w' := by
  go_enter Tryf.func14, Tryf.ntmps14
  go_wp2_with fail
  go_loopg [13] xs.length (fun g x wr => ∃ j : Nat, j ≤ xs.length ∧ g = xs.length - j ∧ x = .int .i64 (j : Int) ∧ Drew w wr)
  case atStart => exact ⟨0, Nat.zero_le _, rfl, rfl, Drew.refl _⟩
  case round =>
    obtain ⟨j, hj, rfl, rfl, hD⟩ := hrel
    by_cases hjl : j < xs.length
    · have hz : (j : Int) < (xs.length : Int) := by omega
      have d1 : wr.cell? ⟨g1, j, none⟩ = _ := (World.cell?_of_block (a := ⟨g1, j, none⟩) (by rw [hD.heap])).trans (h1 j hjl)
      have d2 : wr.cell? ⟨g2, j, none⟩ = _ := (World.cell?_of_block (a := ⟨g2, j, none⟩) (by rw [hD.heap])).trans (h2 j hjl)
      generalize xs[j]?.getD 0 = v at d1 d2
      go_wp2_with fail
      go_quiet (fail)
      go_wp2_with fail
      go_roundg (xs.length - (j + 1))
      case measure => omega
      case rel => exact ⟨j + 1, by omega, rfl, by go_num, hD.more nq⟩
    · have hz : ¬ ((j : Int) < (xs.length : Int)) := by omega
      go_wp2_with fail
      go_ret
      exact ⟨rfl, hD⟩

set_option maxHeartbeats 1000000 in
theorem pairsEq_any (g1 g2 c1 c2 : Nat) (l : List (Nat × Nat)) (w : World) (h1 : PairsAt w g1 l) (h2 : PairsAt w g2 l) (hl : l.length ≤ 1048576) :
    Calls Tryf.prog 15 #[.slice (some ⟨g1, 0, none⟩) l.length c1, .slice (some ⟨g2, 0, none⟩) l.length c2] w fun e w' => e = .returned (.bool true) ∧ Drew w w' := by
  go_enter Tryf.func15, Tryf.ntmps15
  go_wp2_with fail
  go_loopg [13] l.length (fun g x wr => ∃ j : Nat, j ≤ l.length ∧ g = l.length - j ∧ x = .int .i64 (j : Int) ∧ Drew w wr)
  case atStart => exact ⟨0, Nat.zero_le _, rfl, rfl, Drew.refl _⟩
  case round =>
    obtain ⟨j, hj, rfl, rfl, hD⟩ := hrel
    by_cases hjl : j < l.length
    · have hz : (j : Int) < (l.length : Int) := by omega
      have d1 : wr.cell? ⟨g1, j * 2, none⟩ = _ := (World.cell?_of_block (a := ⟨g1, j * 2, none⟩) (by rw [hD.heap])).trans (h1 j hjl).1
      have d2 : wr.cell? ⟨g1, j * 2 + 1, none⟩ = _ := (World.cell?_of_block (a := ⟨g1, j * 2 + 1, none⟩) (by rw [hD.heap])).trans (h1 j hjl).2
      have d3 : wr.cell? ⟨g2, j * 2, none⟩ = _ := (World.cell?_of_block (a := ⟨g2, j * 2, none⟩) (by rw [hD.heap])).trans (h2 j hjl).1
      have d4 : wr.cell? ⟨g2, j * 2 + 1, none⟩ = _ := (World.cell?_of_block (a := ⟨g2, j * 2 + 1, none⟩) (by rw [hD.heap])).trans (h2 j hjl).2
      generalize l[j]?.getD (0, 0) = v at d1 d2 d3 d4
      obtain ⟨v1, v2⟩ := v
      simp only at d1 d2 d3 d4
      go_wp2_with fail
      go_quiet (fail)
      go_wp2_with fail
      go_roundg (l.length - (j + 1))
      case measure => omega
      case rel => exact ⟨j + 1, by omega, rfl, by go_num, hD.more nq⟩
    · have hz : ¬ ((j : Int) < (l.length : Int)) := by omega
      go_wp2_with fail
      go_ret
      exact ⟨rfl, hD⟩

end Go.Proofs.Qxb6615834aFmt
