/-
  Validate: the walk.
-/
import Derived.Test.Qxb6615834aFmtAcc
import Derived.Deep.RegionHeld3
namespace Go.Proofs.Qxb6615834aFmt
open Go.RowKit Go.Deep Go.Extern.Stop Go.Stop Go.Extern
attribute [local go_sem] fc_call43 fc_call30 fc_guard fc_op9_115 fc_op3_100 fc_op9_115w fc_op3_100w fc_ptr89 fc_elem89 fc_ptr85 fc_elem85 fc_isError89 fc_n3 fc_n3p fc_t3 fc_t3p fc_a2 fc_a2p fc_s2 fc_s2p
theorem ix52_0 (x y : Int) (w : World) : (Instr.index 52 (.agg #[.int .i64 x, .int .i64 y]) (.int .i64 0)).run Tryf.prog w = .ok (.int .i64 x) w := by kernel_rfl
theorem ix52_1 (x y : Int) (w : World) : (Instr.index 52 (.agg #[.int .i64 x, .int .i64 y]) (.int .i64 1)).run Tryf.prog w = .ok (.int .i64 y) w := by kernel_rfl
attribute [local go_sem] ix52_0 ix52_1
theorem wide_fnV (f : FuncId) : Fence.wide.fn f = True := rfl
attribute [local go_sem] wide_fnV
attribute [local simp] wide_fnV

/-- An accusation graph in memory. -/
def AGAt (w : World) (bG : Nat) (n t s : Int) (v : Value) : Prop := w.rowIs bG 33 4 (fun i => if i = 0 then .int .i64 n else if i = 1 then .int .i64 t else if i = 2 then .int .i64 s else v)

theorem AGAt.cells {w : World} {bG : Nat} {n t s : Int} {v : Value} (h : AGAt w bG n t s v) : w.cell? ⟨bG, 0, none⟩ = some (.int .i64 n) ∧ w.cell? ⟨bG, 1, none⟩ = some (.int .i64 t) ∧ w.cell? ⟨bG, 2, none⟩ = some (.int .i64 s) ∧ w.cell? ⟨bG, 3, none⟩ = some v :=
  ⟨World.rowIs.cell h (by omega), World.rowIs.cell h (by omega), World.rowIs.cell h (by omega), World.rowIs.cell h (by omega)⟩

/-- The answer: nil where the input is good, an error where it is not. -/
def VRes (good : Prop) (e : Ending) : Prop := (good → e = .returned .nilIface) ∧ (¬ good → ∃ a, e = .returned (.iface 89 (.pointer (some a))))

def allOk (n : Int) (l : List (Int × Int)) : Prop := ∀ i, i < l.length → okP n (l[i]?.getD (0, 0))

set_option maxRecDepth 100000 in
set_option maxHeartbeats 4000000 in
theorem validate_any (F : Interp) (bG : Nat) (n t s : Int) (A : Option Addr) (b c : Nat) (l : List (Int × Int)) (w : World) (hF : F.answers w.tape) (hg : AGAt w bG n t s (.slice A l.length c)) (hA : 0 < l.length → A = some ⟨b, 0, none⟩) (h : IPAt w b 0 l) (hl : l.length ≤ 1048576) :
    Calls Tryf.prog 22 #[.pointer (some ⟨bG, 0, none⟩)] w fun e w' => VRes (headOk n t s ∧ allOk n l) e ∧ Below w.heap.size w w' := by
  have hF' := answers_open hF
  have hmx : Tryf.prog.follows .mixedOrders = true := by kernel_rfl
  obtain ⟨c0, c1, c2, c3⟩ := hg.cells
  go_enter Tryf.func22, Tryf.ntmps22
  go_wp2_with fail
  refine (wpIn_wide (n := 10)).1 ?_
  refine wpIn_wide_tail 8 hmx (by kernel_rfl) ?_
  simp only [List.take_succ_cons, List.take_zero, List.drop_succ_cons, List.drop_zero]
  repeat (gi_big_quiet_step (fail))
  refine wpQuietIn_nil ?_
  rintro W ⟨nq, hW⟩
  have hBW : Below w.heap.size w W := by rw [hW]; exact below_drewN (Below.refl _ _) nq
  have hFW : F.answers W.tape := by rw [hBW.tape]; exact hF
  have hgW : AGAt W bG n t s (.slice A l.length c) := by rw [hW]; exact hg
  have hhW : IPAt W b 0 l := by rw [hW]; exact h
  have hWs : W.heap.size = w.heap.size := by rw [hW]; rfl
  clear hW c0 c1 c2 c3
  obtain ⟨c0, c1, c2, c3⟩ := hgW.cells
  by_cases h1 : 2 ≤ n ∧ n ≤ 1024 ∧ 0 ≤ t ∧ t < n
  · gi_wp2_with fail
    refine (callsIn_wide.2 (checkCommittee_ok n t W h1)).mono ?_
    rintro e w' ⟨rfl, rfl⟩
    gi_wp2_with fail
    go_wp2_with fail
    refine (wpIn_wide (n := 10)).1 ?_
    refine wpIn_wide_tail 8 hmx (by kernel_rfl) ?_
    simp only [List.take_succ_cons, List.take_zero, List.drop_succ_cons, List.drop_zero]
    repeat (gi_big_quiet_step (fail))
    refine wpQuietIn_nil ?_
    rintro W2 ⟨nq2, hW2⟩
    have hBW2 : Below w.heap.size w W2 := by rw [hW2]; exact below_drewN hBW nq2
    have hFW2 : F.answers W2.tape := by rw [hBW2.tape]; exact hF
    have hgW2 : AGAt W2 bG n t s (.slice A l.length c) := by rw [hW2]; exact hgW
    have hhW2 : IPAt W2 b 0 l := by rw [hW2]; exact hhW
    have hW2s : W2.heap.size = w.heap.size := by rw [hW2]; exact hWs
    clear hW2 c0 c1 c2 c3 hgW hhW hWs hFW hBW
    obtain ⟨c0, c1, c2, c3⟩ := hgW2.cells
    by_cases h2 : 1 ≤ s ∧ s ≤ n
    · gi_wp2_with fail
      refine (callsIn_wide.2 (checkParty_ok _ s n W2 (partyB_true h2))).mono ?_
      rintro e w' ⟨rfl, rfl⟩
      gi_wp2_with fail
      have hh : headOk n t s := ⟨h1.1, h1.2.1, h1.2.2.1, h1.2.2.2, h2⟩
      obtain ⟨n1, n2, n3, n4⟩ := h1
      clear h2
      go_wp2_with fail
      have hbH : ∀ i, i < l.length → b < w.heap.size := fun i hi => by rw [← hW2s]; exact block_lt_of_cell (hhW2 i hi).1
      have hgH : bG < w.heap.size := by rw [← hW2s]; exact World.rowIs.lt hgW2
      replace hh := Kept.of hh
      go_loopg [38] l.length (fun g x wr => ∃ j : Nat, j ≤ l.length ∧ g = l.length - j ∧ x = .int .i64 (j : Int) ∧ (∀ i, i < j → okP n (l[i]?.getD (0, 0))) ∧ Below w.heap.size w wr ∧ AGAt wr bG n t s (.slice A l.length c) ∧ IPAt wr b 0 l)
      case atStart => exact ⟨0, Nat.zero_le _, rfl, rfl, fun i hi => by omega, hBW2, hgW2, hhW2⟩
      case round =>
        clear c0 c1 c2 c3 hgW2 hhW2 hFW2 hBW2
        obtain ⟨j, hj, rfl, rfl, hok, hB, hgr, hhr⟩ := hrel
        have hsz : w.heap.size ≤ wr.heap.size := hB.size
        by_cases hjl : j < l.length
        · have hz : (j : Int) < (l.length : Int) := by omega
          obtain rfl := hA (by omega)
          obtain ⟨c1, c2⟩ := hhr j hjl
          rw [Nat.zero_add] at c1 c2
          have hnx : okP n (l[j]?.getD (0, 0)) → ∀ i, i < j + 1 → okP n (l[i]?.getD (0, 0)) := fun hp i hi => by
            by_cases e : i = j
            · subst e; exact hp
            · exact hok i (by omega)
          have hbad : ¬ okP n (l[j]?.getD (0, 0)) → Kept (¬ (headOk n t s ∧ allOk n l)) := fun hp e => hp (e.2 j hjl)
          have hbj := hbH j hjl
          generalize l[j]?.getD (0, 0) = p at c1 c2 hnx hbad
          obtain ⟨p1, p2⟩ := p
          simp only at c1 c2
          unfold okP at hnx hbad
          simp only at hnx hbad
          have hB1 : Below w.heap.size w (wr.alloc (.cells #[.int .i64 p1, .int .i64 p2] 52)) := hB.alloc hsz _
          have hg1 : AGAt (wr.alloc (.cells #[.int .i64 p1, .int .i64 p2] 52)) bG n t s (.slice (some ⟨b, 0, none⟩) l.length c) := World.rowIs.alloc hgr _
          have hh1 : IPAt (wr.alloc (.cells #[.int .i64 p1, .int .i64 p2] 52)) b 0 l := hhr.below ((Below.refl w.heap.size wr).alloc hsz _) hbj
          have y0 : (wr.alloc (.cells #[.int .i64 p1, .int .i64 p2] 52)).cell? ⟨wr.heap.size, 0, none⟩ = some (.int .i64 p1) := by simp
          have y1 : (wr.alloc (.cells #[.int .i64 p1, .int .i64 p2] 52)).cell? ⟨wr.heap.size, 1, none⟩ = some (.int .i64 p2) := by simp
          have z1 : wr.heap.size ≤ (wr.alloc (.cells #[.int .i64 p1, .int .i64 p2] 52)).heap.size := by simp
          generalize hV : wr.alloc (.cells #[.int .i64 p1, .int .i64 p2] 52) = V at hB1 hg1 hh1 y0 y1 z1
          obtain ⟨d0, _⟩ := hg1.cells
          have hgV : bG < V.heap.size := World.rowIs.lt hg1
          have hgV2 : ¬ bG = V.heap.size := by omega
          have hgV3 : bG ≠ V.heap.size := by omega
          have hFV : F.answers V.tape := by rw [hB1.tape]; exact hF
          have hFV' := answers_open hFV
          clear hok hhr hgr hB
          go_wp2_with fail
          go_loopg [44] 2 (fun g x W => ∃ i : Nat, i ≤ 2 ∧ g = 2 - i ∧ x = .int .i64 (i : Int) ∧ W = V ∧ (1 ≤ i → 1 ≤ p1 ∧ p1 ≤ n) ∧ (2 ≤ i → 1 ≤ p2 ∧ p2 ≤ n))
          case atStart => exact ⟨0, by omega, rfl, rfl, rfl, fun h => by omega, fun h => by omega⟩
          case round =>
            obtain ⟨i, hi2, rfl, rfl, rfl, o1, o2⟩ := hrel
            by_cases hi : i < 2
            · obtain ⟨q, hq, hqv⟩ : ∃ q : Int, (∀ W, (Instr.index 52 (.agg #[.int .i64 p1, .int .i64 p2]) (.int .i64 (i : Int))).run Tryf.prog W = .ok (.int .i64 q) W) ∧ ((i = 0 ∧ q = p1) ∨ (i = 1 ∧ q = p2)) := by
                have hc : i = 0 ∨ i = 1 := by omega
                rcases hc with rfl | rfl
                · exact ⟨p1, fun W => ix52_0 p1 p2 W, Or.inl ⟨rfl, rfl⟩⟩
                · exact ⟨p2, fun W => ix52_1 p1 p2 W, Or.inr ⟨rfl, rfl⟩⟩
              have hiz : (i : Int) < 2 := by omega
              by_cases hp : 1 ≤ q ∧ q ≤ n
              · have hpb := partyB_true hp
                have hnext : (1 ≤ i + 1 → 1 ≤ p1 ∧ p1 ≤ n) ∧ (2 ≤ i + 1 → 1 ≤ p2 ∧ p2 ≤ n) := by
                  rcases hqv with ⟨rfl, rfl⟩ | ⟨rfl, rfl⟩
                  · exact ⟨fun _ => hp, fun h => by omega⟩
                  · exact ⟨fun _ => o1 (by omega), fun _ => hp⟩
                replace hnext := Kept.of hnext
                clear hqv hbad hnx o1 o2 hp
                go_wp2_with (go_at_call 20; refine (isParty_any _ _ _).mono ?_; rintro e w' ⟨rfl, rfl⟩)
                go_roundg (2 - (i + 1))
                case measure => omega
                case rel => exact ⟨i + 1, by omega, rfl, by go_num, rfl, hnext.1, hnext.2⟩
              · have hpb := partyB_false hp
                replace hbad := hbad (by omega)
                clear hnx o1 o2 hp hqv
                go_wp2_with (go_at_call 20; refine (isParty_any _ _ _).mono ?_; rintro e w' ⟨rfl, rfl⟩)
                refine wp_region_noPanic ?_
                go_region_with (go_at_call 21; refine (checkParty_no F _ _ _ _ (by exact hFV) hpb).mono ?_; rintro e w' ⟨⟨a, rfl⟩, hb⟩)
                all_goals (
                  refine NoPanic.normal ?_
                  go_wp2_with fail
                  go_ret
                  refine ⟨⟨fun e => absurd e hbad, fun _ => ⟨a, rfl⟩⟩, ?_⟩
                  refine Below.trans ?_ (hb.mono (by simp; omega))
                  repeat (first | exact hB1 | refine Below.drew ?_ | refine Below.alloc ?_ (by first | omega | (simp; omega)) _))
            · obtain rfl : i = 2 := by omega
              have hp1 := o1 (by omega)
              have hp2 := o2 (by omega)
              by_cases he : p1 = p2
              · replace hbad := hbad (by omega)
                clear hnx o1 o2 hp1 hp2
                subst he
                go_wp2_with go_in
                go_ret
                refine ⟨⟨fun e => absurd e hbad, fun _ => ⟨_, rfl⟩⟩, ?_⟩
                repeat (first | exact hB1 | refine Below.drew ?_ | refine Below.alloc ?_ (by first | omega | (simp; omega)) _)
              · replace hnx := Kept.of (hnx ⟨hp1.1, hp1.2, hp2.1, hp2.2, he⟩)
                clear hbad o1 o2 hp1 hp2
                go_wp2_with fail
                go_roundg (l.length - (j + 1))
                case measure => omega
                case rel => exact ⟨j + 1, by omega, rfl, by go_num, hnx, hB1, hg1, hh1⟩
        · have hz : ¬ ((j : Int) < (l.length : Int)) := by omega
          obtain rfl : j = l.length := by omega
          go_wp2_with fail
          go_ret
          exact ⟨⟨fun _ => rfl, fun e => absurd ⟨hh, hok⟩ e⟩, hB⟩
    · gi_wp2_with fail
      refine (callsIn_wide.2 (checkParty_no F _ s n W2 hFW2 (partyB_false h2))).mono ?_
      rintro e w' ⟨⟨a, rfl⟩, hb⟩
      gi_wp2_with fail
      have hbad : Kept (¬ (headOk n t s ∧ allOk n l)) := fun e => h2 ⟨e.1.2.2.2.2.1, e.1.2.2.2.2.2⟩
      clear h2 h1
      go_wp2_with fail
      go_ret
      rw [hW2s] at hb
      exact ⟨⟨fun e => absurd e hbad, fun _ => ⟨a, rfl⟩⟩, hBW2.trans hb⟩
  · gi_wp2_with fail
    refine (callsIn_wide.2 (checkCommittee_no F n t W hFW h1)).mono ?_
    rintro e w' ⟨⟨a, rfl⟩, hb⟩
    gi_wp2_with fail
    have hbad : Kept (¬ (headOk n t s ∧ allOk n l)) := fun e => h1 ⟨e.1.1, e.1.2.1, e.1.2.2.1, e.1.2.2.2.1⟩
    clear h1
    go_wp2_with fail
    go_ret
    rw [hWs] at hb
    exact ⟨⟨fun e => absurd e hbad, fun _ => ⟨a, rfl⟩⟩, hBW.trans hb⟩

end Go.Proofs.Qxb6615834aFmt
