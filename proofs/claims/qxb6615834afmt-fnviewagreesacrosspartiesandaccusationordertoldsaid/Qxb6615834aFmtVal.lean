/-
  checkCommittee and Validate: the walks.
-/
import Derived.Test.Qxb6615834aFmtParty
import Derived.Test.Qxb6615834aFmtSorted
namespace Go.Proofs.Qxb6615834aFmt
open Go.RowKit Go.Deep Go.Extern.Stop Go.Stop Go.Extern
theorem fc_call30 (args : Array Value) (w : World) : (callFunc 30 args).run Tryf.prog w = ((FmtStop.sprintf #[9, 83] #[9] args).run Tryf.prog w).andThen fun v w' => .ok (.value v) w' :=
  run_callFunc_extern Tryf.func30 (by kernel_rfl) (by kernel_rfl) (by kernel_rfl) (by kernel_rfl) args w
theorem fc_n3 (w : World) : (FmtDoors.printed ⟨#[110, 32, 105, 115, 32, 37, 100, 59, 32, 105, 116, 32, 109, 117, 115, 116, 32, 98, 101, 32, 102, 114, 111, 109, 32, 37, 100, 32, 116, 111, 32, 37, 100]⟩ 3).run Tryf.prog w = .ok [(0, 100, false), (1, 100, false), (2, 100, false)] w := by kernel_rfl
theorem fc_n3p : FmtStop.printed? ⟨#[110, 32, 105, 115, 32, 37, 100, 59, 32, 105, 116, 32, 109, 117, 115, 116, 32, 98, 101, 32, 102, 114, 111, 109, 32, 37, 100, 32, 116, 111, 32, 37, 100]⟩ 3 = some [(0, 100, false), (1, 100, false), (2, 100, false)] := by kernel_rfl
theorem fc_t3 (w : World) : (FmtDoors.printed ⟨#[116, 32, 105, 115, 32, 37, 100, 59, 32, 119, 105, 116, 104, 32, 110, 32, 61, 32, 37, 100, 32, 105, 116, 32, 109, 117, 115, 116, 32, 98, 101, 32, 102, 114, 111, 109, 32, 48, 32, 116, 111, 32, 37, 100]⟩ 3).run Tryf.prog w = .ok [(0, 100, false), (1, 100, false), (2, 100, false)] w := by kernel_rfl
theorem fc_t3p : FmtStop.printed? ⟨#[116, 32, 105, 115, 32, 37, 100, 59, 32, 119, 105, 116, 104, 32, 110, 32, 61, 32, 37, 100, 32, 105, 116, 32, 109, 117, 115, 116, 32, 98, 101, 32, 102, 114, 111, 109, 32, 48, 32, 116, 111, 32, 37, 100]⟩ 3 = some [(0, 100, false), (1, 100, false), (2, 100, false)] := by kernel_rfl
theorem fc_a2 (w : World) : (FmtDoors.printed ⟨#[97, 99, 99, 117, 115, 97, 116, 105, 111, 110, 115, 91, 37, 100, 93, 32, 104, 97, 115, 32, 112, 97, 114, 116, 121, 32, 37, 100, 32, 97, 99, 99, 117, 115, 101, 32, 105, 116, 115, 101, 108, 102]⟩ 2).run Tryf.prog w = .ok [(0, 100, false), (1, 100, false)] w := by kernel_rfl
theorem fc_a2p : FmtStop.printed? ⟨#[97, 99, 99, 117, 115, 97, 116, 105, 111, 110, 115, 91, 37, 100, 93, 32, 104, 97, 115, 32, 112, 97, 114, 116, 121, 32, 37, 100, 32, 97, 99, 99, 117, 115, 101, 32, 105, 116, 115, 101, 108, 102]⟩ 2 = some [(0, 100, false), (1, 100, false)] := by kernel_rfl
theorem fc_s2 (w : World) : (FmtDoors.printed ⟨#[97, 99, 99, 117, 115, 97, 116, 105, 111, 110, 115, 91, 37, 100, 93, 91, 37, 100, 93]⟩ 2).run Tryf.prog w = .ok [(0, 100, false), (1, 100, false)] w := by kernel_rfl
theorem fc_s2p : FmtStop.printed? ⟨#[97, 99, 99, 117, 115, 97, 116, 105, 111, 110, 115, 91, 37, 100, 93, 91, 37, 100, 93]⟩ 2 = some [(0, 100, false), (1, 100, false)] := by kernel_rfl
attribute [local go_sem] fc_call43 fc_call30 fc_guard fc_op9_115 fc_op3_100 fc_op9_115w fc_op3_100w fc_ptr89 fc_elem89 fc_ptr85 fc_elem85 fc_isError89 fc_n3 fc_n3p fc_t3 fc_t3p fc_a2 fc_a2p fc_s2 fc_s2p

/-- n parties, at most t corrupt: as the committee must be. -/
def commB (n t : Int) : Bool := decide (2 ≤ n ∧ n ≤ 1024 ∧ 0 ≤ t ∧ t < n)

set_option maxHeartbeats 400000 in
theorem checkCommittee_ok (n t : Int) (w : World) (h : 2 ≤ n ∧ n ≤ 1024 ∧ 0 ≤ t ∧ t < n) :
    Calls Tryf.prog 29 #[.int .i64 n, .int .i64 t] w fun e w' => e = .returned .nilIface ∧ w' = w := by
  obtain ⟨h1, h2, h3, h4⟩ := h
  go_enter Tryf.func29, Tryf.ntmps29
  go_wp2
  go_ret
  exact ⟨rfl, rfl⟩

set_option maxRecDepth 100000 in
set_option maxHeartbeats 1000000 in
theorem checkCommittee_no (F : Interp) (n t : Int) (w : World) (hF : F.answers w.tape) (h : ¬ (2 ≤ n ∧ n ≤ 1024 ∧ 0 ≤ t ∧ t < n)) :
    Calls Tryf.prog 29 #[.int .i64 n, .int .i64 t] w fun e w' => (∃ a, e = .returned (.iface 89 (.pointer (some a)))) ∧ Below w.heap.size w w' := by
  have hF' := answers_open hF
  by_cases h1 : n < 2
  · go_enter Tryf.func29, Tryf.ntmps29
    go_wp2_with go_in
    go_ret
    exact ⟨⟨_, rfl⟩, (((Below.refl _ _).alloc (Nat.le_refl _) _).alloc (by simp) _).drew⟩
  by_cases h2 : 1024 < n
  · go_enter Tryf.func29, Tryf.ntmps29
    go_wp2_with go_in
    go_ret
    exact ⟨⟨_, rfl⟩, (((Below.refl _ _).alloc (Nat.le_refl _) _).alloc (by simp) _).drew⟩
  by_cases h3 : t < 0
  · go_enter Tryf.func29, Tryf.ntmps29
    go_wp2_with go_in
    go_ret
    exact ⟨⟨_, rfl⟩, (((Below.refl _ _).alloc (Nat.le_refl _) _).alloc (by simp) _).drew⟩
  have h4 : n ≤ t := by omega
  go_enter Tryf.func29, Tryf.ntmps29
  go_wp2_with go_in
  go_ret
  exact ⟨⟨_, rfl⟩, (((Below.refl _ _).alloc (Nat.le_refl _) _).alloc (by simp) _).drew⟩

end Go.Proofs.Qxb6615834aFmt
