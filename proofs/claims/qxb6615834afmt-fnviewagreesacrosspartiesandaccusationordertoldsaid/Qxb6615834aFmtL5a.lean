/-
  FnViewAgreesAcrossPartiesAndAccusationOrder: where the input is not good, or long.
-/
import Derived.Test.Qxb6615834aFmtLaw4b
import Derived.Test.Qxb6615834aFmtL5p
import Derived.Test.Qxb6615834aFmtZz5
import Derived.Test.Qxb6615834aFmtZz4
namespace Go.Proofs.Qxb6615834aFmt
open Go.RowKit Go.Deep Go.Extern.Stop Go.Stop Go.Extern

set_option maxHeartbeats 1000000 in
theorem zzBytes5_any (n t s p q : Int) (A : Option Addr) (k c : Nat) (w : World) (hk : k ≤ 1048576) : Calls Tryf.prog 16 #[.int .i64 n, .int .i64 t, .int .i64 s, .slice A k c, .int .i64 p, .int .i64 q] w fun e w' => e = .returned (.bool true) ∧ w' = w := by
  have h1 : ¬ ((1048576 : Int) < (k : Int)) := by omega
  go_enter Tryf.func16, Tryf.ntmps16
  go_wp2_with fail
  go_ret
  exact ⟨rfl, rfl⟩

set_option maxHeartbeats 1000000 in
theorem zzBytes5_no (n t s p q : Int) (A : Option Addr) (k c : Nat) (w : World) (hk : 1048576 < k) : Calls Tryf.prog 16 #[.int .i64 n, .int .i64 t, .int .i64 s, .slice A k c, .int .i64 p, .int .i64 q] w fun e w' => e = .returned (.bool false) ∧ w' = w := by
  have h1 : (1048576 : Int) < (k : Int) := by omega
  go_enter Tryf.func16, Tryf.ntmps16
  go_wp2_with fail
  go_ret
  exact ⟨rfl, rfl⟩

set_option maxRecDepth 1000000 in
set_option maxHeartbeats 4000000 in
theorem law5_long (n t s p q : Int) (A : Option Addr) (k c : Nat) (w : World) (hl : 65536 < k) :
    Calls Tryf.prog 5 #[.int .i64 n, .int .i64 t, .int .i64 s, .slice A k c, .int .i64 p, .int .i64 q] w fun e w' => e = .returned (.bool true) ∧ Below w.heap.size w w' := by
  by_cases hk : 1048576 < k
  · have kB := zzBytes5_no n t s p q A k c w hk
    go_enter Tryf.func5, Tryf.ntmps5
    go_wp2_with (go_at_call 16; refine kB.mono ?_; rintro e w' ⟨rfl, rfl⟩)
    go_ret
    exact ⟨rfl, Below.refl _ _⟩
  · have kB := zzBytes5_any n t s p q A k c w (by omega)
    have hlz : (65536 : Int) < (k : Int) := by omega
    go_enter Tryf.func5, Tryf.ntmps5
    go_wp2_with (go_at_call 16; refine kB.mono ?_; rintro e w' ⟨rfl, rfl⟩)
    go_ret
    exact ⟨rfl, Below.refl _ _⟩

set_option maxRecDepth 1000000 in
set_option maxHeartbeats 4000000 in
theorem law5_bad (n t s p q : Int) (A : Option Addr) (b off c : Nat) (l : List (Int × Int)) (w : World) (hA : 0 < l.length → A = some ⟨b, off, none⟩) (h : IPAt w b off l) (hl : l.length ≤ 65536)
    (hbad : ¬ ((headOk n t s ∧ allOk n l) ∧ (1 ≤ p ∧ p ≤ n) ∧ 1 ≤ q ∧ q ≤ n)) :
    Calls Tryf.prog 5 #[.int .i64 n, .int .i64 t, .int .i64 s, .slice A l.length c, .int .i64 p, .int .i64 q] w fun e w' => e = .returned (.bool true) ∧ Below w.heap.size w w' := by
  have kB := zzBytes5_any n t s p q A l.length c w (by omega)
  have hlz : ¬ ((65536 : Int) < (l.length : Int)) := by omega
  have hbadK := Kept.of hbad
  clear hbad
  by_cases hh : headOk n t s
  · have kV := valid_any n t s A b off c l w hh hA h (by omega)
    replace hh := Kept.of hh
    cases hvb : validB n l with
    | false =>
      rw [hvb] at kV
      clear hvb
      go_enter Tryf.func5, Tryf.ntmps5
      go_wp2_with (first | (go_at_call 16; refine kB.mono ?_; rintro e w' ⟨rfl, hw⟩; rw [hw]; clear hw) | (go_at_call 11; refine kV.mono ?_; rintro e w' ⟨rfl, hw⟩; rw [hw]; clear hw))
      go_ret
      exact ⟨rfl, Below.refl _ _⟩
    | true =>
      rw [hvb] at kV
      have hp : ¬ ((1 ≤ p ∧ p ≤ n) ∧ 1 ≤ q ∧ q ≤ n) := fun e => hbadK ⟨⟨hh, validB_true.1 hvb⟩, e⟩
      clear hvb
      by_cases hp1 : p < 1
      · clear hp
        go_enter Tryf.func5, Tryf.ntmps5
        go_wp2_with (first | (go_at_call 16; refine kB.mono ?_; rintro e w' ⟨rfl, hw⟩; rw [hw]; clear hw) | (go_at_call 11; refine kV.mono ?_; rintro e w' ⟨rfl, hw⟩; rw [hw]; clear hw))
        go_ret
        exact ⟨rfl, Below.refl _ _⟩
      by_cases hp2 : n < p
      · clear hp
        go_enter Tryf.func5, Tryf.ntmps5
        go_wp2_with (first | (go_at_call 16; refine kB.mono ?_; rintro e w' ⟨rfl, hw⟩; rw [hw]; clear hw) | (go_at_call 11; refine kV.mono ?_; rintro e w' ⟨rfl, hw⟩; rw [hw]; clear hw))
        go_ret
        exact ⟨rfl, Below.refl _ _⟩
      by_cases hp3 : q < 1
      · clear hp
        go_enter Tryf.func5, Tryf.ntmps5
        go_wp2_with (first | (go_at_call 16; refine kB.mono ?_; rintro e w' ⟨rfl, hw⟩; rw [hw]; clear hw) | (go_at_call 11; refine kV.mono ?_; rintro e w' ⟨rfl, hw⟩; rw [hw]; clear hw))
        go_ret
        exact ⟨rfl, Below.refl _ _⟩
      have hp4 : n < q := by omega
      clear hp
      go_enter Tryf.func5, Tryf.ntmps5
      go_wp2_with (first | (go_at_call 16; refine kB.mono ?_; rintro e w' ⟨rfl, hw⟩; rw [hw]; clear hw) | (go_at_call 11; refine kV.mono ?_; rintro e w' ⟨rfl, hw⟩; rw [hw]; clear hw))
      go_ret
      exact ⟨rfl, Below.refl _ _⟩
  · have kV := valid_head n t s (.slice A l.length c) w hh
    replace hh := Kept.of hh
    go_enter Tryf.func5, Tryf.ntmps5
    go_wp2_with (first | (go_at_call 16; refine kB.mono ?_; rintro e w' ⟨rfl, hw⟩; rw [hw]; clear hw) | (go_at_call 11; refine kV.mono ?_; rintro e w' ⟨rfl, hw⟩; rw [hw]; clear hw))
    go_ret
    exact ⟨rfl, Below.refl _ _⟩

end Go.Proofs.Qxb6615834aFmt
