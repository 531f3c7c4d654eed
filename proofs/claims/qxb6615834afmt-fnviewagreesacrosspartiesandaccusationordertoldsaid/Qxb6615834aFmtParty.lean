/-
  isParty, checkParty and the law FnIsPartyAgreesWithCheckPartyAndMirror: the walks.
-/
import Derived.Test.Qxb6615834aFmtRows
import Derived.Test.Qxb6615834aFmtFacts
import Derived.WalkKit
import Derived.WalkSpells
import Derived.WalkLawsBesides
namespace Go.Proofs.Qxb6615834aFmt
open Go.RowKit Go.Extern.Stop Go.Stop Go.Extern
attribute [local go_sem] fc_call43 fc_guard fc_party3 fc_party3p fc_op9_115 fc_op3_100 fc_op9_115w fc_op3_100w fc_ptr89 fc_elem89 fc_ptr85 fc_elem85 fc_isError89

def partyB (p n : Int) : Bool := decide (1 ≤ p ∧ p ≤ n)
theorem partyB_true {p n : Int} (h : 1 ≤ p ∧ p ≤ n) : partyB p n = true := by simp [partyB, h]
theorem partyB_false {p n : Int} (h : ¬ (1 ≤ p ∧ p ≤ n)) : partyB p n = false := by simp only [partyB]; exact decide_eq_false h

set_option maxHeartbeats 400000 in
theorem isParty_any (p n : Int) (w : World) :
    Calls Tryf.prog 20 #[.int .i64 p, .int .i64 n] w fun e w' => e = .returned (.bool (partyB p n)) ∧ w' = w := by
  by_cases h1 : 1 ≤ p
  · by_cases h2 : p ≤ n
    · rw [partyB_true ⟨h1, h2⟩]
      go_enter Tryf.func20, Tryf.ntmps20
      go_wp2
      go_ret
      exact ⟨by simp, rfl⟩
    · rw [partyB_false (by omega)]
      go_enter Tryf.func20, Tryf.ntmps20
      go_wp2
      go_ret
      exact ⟨by simp, rfl⟩
  · rw [partyB_false (by omega)]
    go_enter Tryf.func20, Tryf.ntmps20
    go_wp2
    go_ret
    exact ⟨by simp, rfl⟩

set_option maxHeartbeats 400000 in
theorem zzisParty_any (p n : Int) (w : World) :
    Calls Tryf.prog 6 #[.int .i64 p, .int .i64 n] w fun e w' => e = .returned (.bool (partyB p n)) ∧ w' = w := by
  go_enter Tryf.func6, Tryf.ntmps6
  go_wp2_with (go_at_call 20; refine (isParty_any _ _ _).mono ?_; rintro e w' ⟨rfl, rfl⟩)
  go_ret
  exact ⟨rfl, rfl⟩

set_option maxHeartbeats 400000 in
theorem checkParty_ok (s : ByteArray) (p n : Int) (w : World) (h : partyB p n = true) :
    Calls Tryf.prog 21 #[.string s, .int .i64 p, .int .i64 n] w fun e w' => e = .returned .nilIface ∧ w' = w := by
  go_enter Tryf.func21, Tryf.ntmps21
  go_wp2_with (go_at_call 20; refine (isParty_any _ _ _).mono ?_; rintro e w' ⟨rfl, rfl⟩)
  go_ret
  exact ⟨rfl, rfl⟩

set_option maxRecDepth 100000 in
set_option maxHeartbeats 400000 in
theorem checkParty_no (F : Interp) (s : ByteArray) (p n : Int) (w : World) (hF : F.answers w.tape) (h : partyB p n = false) :
    Calls Tryf.prog 21 #[.string s, .int .i64 p, .int .i64 n] w fun e w' => (∃ a, e = .returned (.iface 89 (.pointer (some a)))) ∧ Below w.heap.size w w' := by
  have hF' := answers_open hF
  go_enter Tryf.func21, Tryf.ntmps21
  go_wp2_with (first | (go_at_call 20; refine (isParty_any _ _ _).mono ?_; rintro e w' ⟨rfl, rfl⟩) | go_in)
  go_ret
  exact ⟨⟨_, rfl⟩, (((Below.refl _ _).alloc (Nat.le_refl _) _).alloc (by simp) _).drew⟩


set_option maxHeartbeats 400000 in
theorem zzcheckParty_ok (s : ByteArray) (p n : Int) (w : World) (h : partyB p n = true) :
    Calls Tryf.prog 7 #[.string s, .int .i64 p, .int .i64 n] w fun e w' => e = .returned .nilIface ∧ w' = w := by
  go_enter Tryf.func7, Tryf.ntmps7
  go_wp2_with (go_at_call 21; refine (checkParty_ok _ _ _ _ h).mono ?_; rintro e w' ⟨rfl, rfl⟩)
  go_ret
  exact ⟨rfl, rfl⟩

set_option maxHeartbeats 400000 in
theorem zzcheckParty_no (F : Interp) (s : ByteArray) (p n : Int) (w : World) (hF : F.answers w.tape) (h : partyB p n = false) :
    Calls Tryf.prog 7 #[.string s, .int .i64 p, .int .i64 n] w fun e w' => (∃ a, e = .returned (.iface 89 (.pointer (some a)))) ∧ Below w.heap.size w w' := by
  go_enter Tryf.func7, Tryf.ntmps7
  go_wp2_with (go_at_call 21; refine (checkParty_no F _ _ _ _ (by exact hF) h).mono ?_; rintro e w' ⟨⟨a, rfl⟩, hb⟩)
  go_ret
  exact ⟨⟨_, rfl⟩, hb⟩

theorem wrap_not_lt (p n : Int) (hn : 0 < n) (h4 : ¬ 536870912 < n) (h1 : ¬ p < -536870912) (h2 : ¬ 536870912 < p) (hp : ¬ (1 ≤ p ∧ p ≤ n)) : ¬ IntKind.u64.wrap (p - 1) < n := by
  simp only [IntKind.wrap, IntKind.signed, IntKind.bits]
  simp
  omega

set_option maxRecDepth 100000 in
set_option maxHeartbeats 400000 in
theorem law_any (F : Interp) (p n : Int) (w : World) (hF : F.answers w.tape) :
    Calls Tryf.prog 3 #[.int .i64 p, .int .i64 n] w fun e w' => e = .returned (.bool true) ∧ Below w.heap.size w w' := by
  by_cases h1 : p < -536870912
  · go_enter Tryf.func3, Tryf.ntmps3
    go_wp2
    go_ret
    exact ⟨rfl, Below.refl _ _⟩
  by_cases h2 : 536870912 < p
  · go_enter Tryf.func3, Tryf.ntmps3
    go_wp2
    go_ret
    exact ⟨rfl, Below.refl _ _⟩
  by_cases h3 : n < -536870912
  · go_enter Tryf.func3, Tryf.ntmps3
    go_wp2
    go_ret
    exact ⟨rfl, Below.refl _ _⟩
  by_cases h4 : 536870912 < n
  · go_enter Tryf.func3, Tryf.ntmps3
    go_wp2
    go_ret
    exact ⟨rfl, Below.refl _ _⟩
  by_cases hp : 1 ≤ p ∧ p ≤ n
  · have hb := partyB_true hp
    have hm : partyB (n + 1 - p) n = true := partyB_true (by omega)
    obtain ⟨hp1, hp2⟩ := hp
    go_enter Tryf.func3, Tryf.ntmps3
    go_wp2_with (first | (go_at_call 6; refine (zzisParty_any _ _ _).mono ?_; rintro e w' ⟨rfl, rfl⟩) | (go_at_call 7; refine (zzcheckParty_ok _ _ _ _ hb).mono ?_; rintro e w' ⟨rfl, rfl⟩))
    go_ret
    exact ⟨rfl, Below.refl _ _⟩
  · have hb := partyB_false hp
    have hm : partyB (n + 1 - p) n = false := partyB_false (by omega)
    by_cases hn : 0 < n
    · have hwz := decide_eq_false (wrap_not_lt p n hn h4 h1 h2 hp)
      go_enter Tryf.func3, Tryf.ntmps3
      go_wp2_with (first | (go_at_call 6; refine (zzisParty_any _ _ _).mono ?_; rintro e w' ⟨rfl, rfl⟩) | (go_at_call 7; refine (zzcheckParty_no F _ _ _ _ (by exact hF) hb).mono ?_; rintro e w' ⟨⟨a, rfl⟩, hbw⟩))
      go_ret
      exact ⟨rfl, hbw⟩
    · go_enter Tryf.func3, Tryf.ntmps3
      go_wp2_with (first | (go_at_call 6; refine (zzisParty_any _ _ _).mono ?_; rintro e w' ⟨rfl, rfl⟩) | (go_at_call 7; refine (zzcheckParty_no F _ _ _ _ (by exact hF) hb).mono ?_; rintro e w' ⟨⟨a, rfl⟩, hbw⟩))
      go_ret
      exact ⟨rfl, hbw⟩

end Go.Proofs.Qxb6615834aFmt
