/-
  learnRuns and the readers of an ordering walked.
-/
import Derived.Test.Qxb6616089aZLearn
namespace Go.Proofs.Qxb6616089a
open Go.RowKit Go.Maps

set_option maxHeartbeats 1000000 in
theorem learnRuns_any (r B : Nat) (nx ps first frm : Int) (k0 : Nat) (D : DataW Unit) (A : Option Addr) (b off n cap : Nat) (RS RQ : Nat → Int) (C : Nat → Nat) (PA : Option Addr) (pn pc : Nat) (w : World)
    (hn : n ≤ 65536) (hk0 : k0 ≤ 65536) (htot : csum C n ≤ 65536) (hfw : (Lit.int .u64 first).wf = true) (hA : 0 < n → A = some ⟨b, off, none⟩)
    (hO : OrdAt w r B nx ps k0 D) (hT : TripAt w b off n (fun j => .int .i64 (RS j)) (fun j => .int .u64 (RQ j)) (fun j => .int .u64 (C j))) :
    Calls Try.prog 14 #[.pointer (some ⟨r, 0, none⟩), .int .u64 first, .int .u64 frm, .slice A n cap, .slice PA pn pc] w fun e w' =>
      e = .returned (.int .u64 (numK first (csum C n))) ∧ Turn w w' r B ∧ OrdAt w' r B nx (passTo frm ps (numK first (csum C n))) (k0 + csum C n) (lm D (numK first) (msgS RS RQ C n) (msgQ RS RQ C n) nx (csum C n)) := by
  have hmk := run_make_row' (P := Try.prog) 35 24 (.int .u64 0) 8 Try.underlying35 Try.info24 rfl .i64 .i64 n (by omega) (by omega)
  have hmk2 := run_make_row' (P := Try.prog) 39 3 (.int .i64 0) 8 Try.underlying39 Try.info3 rfl .i64 .i64 n (by omega) (by omega)
  go_enter Try.func14, Try.ntmps14
  go_wp2
  clear hmk hmk2
  go_loopg [14] n (fun g x wr => ∃ i : Nat, i ≤ n ∧ g = n - i ∧ x = .int .i64 i ∧ Three w wr 3 24 24 n (fun i => .int .i64 (RS i)) (fun i => .int .u64 (RQ i)) (fun i => .int .u64 (C i)) (.int .i64 0) (.int .u64 0) (.int .u64 0) i)
  case atStart => exact ⟨0, Nat.zero_le _, rfl, rfl, three_start _ _ _ _ _ _ _ _ _ _ _⟩
  case round =>
    obtain ⟨i, hi, rfl, rfl, h3⟩ := hrel
    by_cases hlt : i < n
    · obtain rfl := hA (by omega)
      clear hA
      have hz : (i : Int) < (n : Int) := by omega
      have hTw := hT.keep h3.below
      have hbb : b < w.heap.size := World.block_lt_of_cell? _ _ (hT.x i hlt)
      have c0 := hTw.x i hlt
      have c1 : ∀ u, (wr.setCell ⟨w.heap.size, i, none⟩ u).cell? ⟨b, off + i * 3 + 1, none⟩ = some (.int .u64 (RQ i)) := fun u => far1 (by omega) (hTw.y i hlt) u
      have c2 : ∀ u v, ((wr.setCell ⟨w.heap.size, i, none⟩ u).setCell ⟨w.heap.size + 1, i, none⟩ v).cell? ⟨b, off + i * 3 + 2, none⟩ = some (.int .u64 (C i)) := fun u v => far1 (by omega) (far1 (by omega) (hTw.z i hlt) u) v
      have d0 : wr.cell? ⟨w.heap.size, i, none⟩ = some _ := h3.r0.cell hlt
      have f0 := h3.r0.frozen i
      have d1 : ∀ u, (wr.setCell ⟨w.heap.size, i, none⟩ u).cell? ⟨w.heap.size + 1, i, none⟩ = some _ := fun u => far1 (by omega) (h3.r1.cell hlt) u
      have f1 := h3.r1.frozen i
      have d2 : ∀ u v, ((wr.setCell ⟨w.heap.size, i, none⟩ u).setCell ⟨w.heap.size + 1, i, none⟩ v).cell? ⟨w.heap.size + 1 + 1, i, none⟩ = some _ := fun u v => far1 (by omega) (far1 (by omega) (h3.r2.cell hlt) u) v
      have f2 := h3.r2.frozen i
      clear hTw
      go_wp2
      go_roundg (n - (i + 1))
      case measure => go_light; omega
      case rel => go_light; have h4 := three_step h3; exact ⟨i + 1, by omega, rfl, by go_num, h4⟩
    · have e : n = i := by omega
      subst e
      go_wp2_with (go_at_call 24; refine (zzlearn_any r B nx ps first frm k0 D _ _ _ n RS RQ C PA pn pc _ hn hk0 htot hfw (hO.keep h3.below) (upToV_full h3.r0) (upToV_full h3.r1) (upToV_full h3.r2)).mono ?_; rintro e w' ⟨rfl, ht, ho⟩)
      go_ret
      exact ⟨rfl, (turn_of_below h3.below r B).trans ht, ho⟩

set_option maxHeartbeats 400000 in
theorem ordNext_any (r B : Nat) (nx ps : Int) (k : Nat) (D : DataW Unit) (w : World) (hO : OrdAt w r B nx ps k D) :
    Calls Try.prog 15 #[.pointer (some ⟨r, 0, none⟩)] w fun e w' => e = .returned (.int .u64 nx) ∧ w' = w := by
  have h := hO.next_cell
  go_enter Try.func15, Try.ntmps15
  go_wp2
  go_ret
  exact ⟨rfl, rfl⟩
set_option maxHeartbeats 400000 in
theorem ordPassed_any (r B : Nat) (nx ps : Int) (k : Nat) (D : DataW Unit) (w : World) (hO : OrdAt w r B nx ps k D) :
    Calls Try.prog 16 #[.pointer (some ⟨r, 0, none⟩)] w fun e w' => e = .returned (.int .u64 ps) ∧ w' = w := by
  have h := hO.passed_cell
  go_enter Try.func16, Try.ntmps16
  go_wp2
  go_ret
  exact ⟨rfl, rfl⟩
set_option maxHeartbeats 400000 in
theorem ordCount_any (r B : Nat) (nx ps : Int) (k : Nat) (D : DataW Unit) (w : World) (hO : OrdAt w r B nx ps k D) :
    Calls Try.prog 18 #[.pointer (some ⟨r, 0, none⟩)] w fun e w' => e = .returned (.int .i64 (Maps.size D)) ∧ w' = w := by
  have h := hO.map_cell
  have hown := hO.own
  go_enter Try.func18, Try.ntmps18
  go_wp2_with (at_len; refine wpList_len_own _ rfl _ 55 rfl 24 63 Try.underlying55 _ B k D rfl hown ?_)
  go_ret
  exact ⟨rfl, rfl⟩

/-- 'id, ok := o.numbers[x]' -/
theorem wpList_lookup_msg (w : World) {ops : Array Oper} {rest : List Oper} {o : Oper} {a : Act} {Q : Exit → Act → World → Prop}
    (hg : o.guard = none) (m x : Operand) (hop : o.op = Op.lookup 55 m x true) (B k : Nat) (D : DataW Unit) (n s q : Int) (ok : Bool)
    (hm : a.eval m = .map (some B)) (hown : w.ownsMap Try.prog 24 msgElem B k D) (hx : a.eval x = .int .u64 n) (hn : (Lit.int .u64 n).wf = true) (hat : D.atKey (keyL n) (pairD 0 0) = pairD s q) (hok : Maps.has D (keyL n) = ok)
    (hK : wpList Try.prog ops Q rest (a.put o.dst (.tuple #[.agg #[.int .i64 s, .int .u64 q], .bool ok])) w) :
    wpList Try.prog ops Q (o :: rest) a w :=
  wpList_lookup_own_ok w hg m x 55 hop 24 63 keyed24 Try.underlying55 msgElem (zero63 w) (pairD 0 0) [] (msgElem_mk 0 0) B k D hm hown (.int .u64 n) (keyL n) hx (key_of hn) (fun v ps hv => by
    rw [hat] at hv
    rw [msgElem_inv hv, hok]
    exact hK)

set_option maxHeartbeats 400000 in
theorem ordNumber_any (r B : Nat) (nx ps : Int) (k : Nat) (D : DataW Unit) (n s q : Int) (ok : Bool) (w : World) (hO : OrdAt w r B nx ps k D) (hn : (Lit.int .u64 n).wf = true) (hat : D.atKey (keyL n) (pairD 0 0) = pairD s q) (hok : Maps.has D (keyL n) = ok) :
    Calls Try.prog 17 #[.pointer (some ⟨r, 0, none⟩), .int .u64 n] w fun e w' => e = .returned (.tuple #[.int .i64 s, .int .u64 q, .bool ok]) ∧ Below w.heap.size w w' := by
  have h := hO.map_cell
  have hown := hO.own
  have Hat : Hid (D.atKey (keyL n) (pairD 0 0) = pairD s q) := hat
  have Hok : Hid (Maps.has D (keyL n) = ok) := hok
  clear hat hok
  go_enter Try.func17, Try.ntmps17
  go_wp2_with (at_lookup; refine wpList_lookup_msg _ rfl _ _ rfl B k D n s q ok rfl hown rfl hn Hat.out Hok.out ?_)
  go_quiet (fail)
  go_wp2
  go_ret3
  exact ⟨rfl, below_drewN ((Below.refl _ _).alloc (Nat.le_refl _) _) _⟩

end Go.Proofs.Qxb6616089a
