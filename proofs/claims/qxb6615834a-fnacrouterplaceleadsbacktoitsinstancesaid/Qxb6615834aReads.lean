/-
  The readers of a router, walked.
-/
import Derived.Test.Qxb6615834aRouter
namespace Go.Proofs.Qxb6615834a
open Go.RowKit Go.Maps

/-- 'pl, ok := m[name]' at a map of acPlaces -/
theorem wpList_lookup_place (w : World) {ops : Array Oper} {rest : List Oper} {o : Oper} {a : Act} {Q : Exit → Act → World → Prop}
    (hg : o.guard = none) (m x : Operand) (hop : o.op = Op.lookup 43 m x true) (B cnt : Nat) (D : DataW Unit) (s : ByteArray) (c i : Nat)
    (hm : a.eval m = .map (some B)) (hown : w.ownsMap Try.prog 9 placeElem B cnt D) (hx : a.eval x = .string s) (hs : s.size ≤ maxLen) (hat : D.atKey (.string s.data.toList) (pairD 0 0) = pairD c i)
    (hK : wpList Try.prog ops Q rest (a.put o.dst (.tuple #[.agg #[.int .i64 c, .int .i64 i], .bool (Maps.has D (.string s.data.toList))])) w) :
    wpList Try.prog ops Q (o :: rest) a w :=
  wpList_lookup_own_ok w hg m x 43 hop 9 66 keyed9 Try.underlying43 placeElem (zero66 w) (pairD 0 0) [] (placeElem_mk 0 0) B cnt D hm hown (.string s) (.string s.data.toList) hx (key_of hs) (fun v ps hv => by
    rw [hat] at hv
    rw [placeElem_inv hv]
    exact hK)

set_option maxHeartbeats 400000 in
theorem zznewACRouter_any (g n : Nat) (RL : Nat → Nat) (S : Nat → Nat → ByteArray) (w : World)
    (hn : n ≤ 32768) (hL : ∀ i, i < n → 0 < RL i ∧ RL i ≤ 65536) (hsum : rlSum RL n ≤ 65536) (hlen : ∀ i, i < n → ∀ j, j < RL i → (S i j).size ≤ maxLen) (hC : CastsTo w g n n RL S) :
    Calls Try.prog 7 #[.slice (some ⟨g, 0, none⟩) n n] w fun e w' => e = .returned (.pointer (some ⟨w.heap.size + 1, 0, none⟩)) ∧ Below w.heap.size w w' ∧ RouterAt w' (w.heap.size + 1) g n (mapA S RL n) := by
  go_enter Try.func7, Try.ntmps7
  go_wp2_with (go_at_call 16; refine (newACRouter_any g n RL S _ hn hL hsum hlen hC).mono ?_; rintro e w' ⟨rfl, hb, hr⟩)
  go_ret
  exact ⟨rfl, hb, hr⟩

set_option maxHeartbeats 400000 in
theorem placeCount_any (r g n : Nat) (D : DataW Unit) (w : World) (hR : RouterAt w r g n D) :
    Calls Try.prog 9 #[.pointer (some ⟨r, 0, none⟩)] w fun e w' => e = .returned (.int .i64 (Maps.size D)) ∧ w' = w := by
  obtain ⟨B, cnt, hb, hown⟩ := hR.blk
  have h1 : w.cell? ⟨r, 1, none⟩ = some (.map (some B)) := by simp [World.cell?, hb, routerObj]
  go_enter Try.func9, Try.ntmps9
  go_wp2_with (at_len; refine wpList_len_own _ rfl _ 43 rfl 9 66 Try.underlying43 _ B cnt D rfl hown ?_)
  go_ret
  exact ⟨rfl, rfl⟩

set_option maxHeartbeats 400000 in
theorem routerCasts_any (r g n : Nat) (D : DataW Unit) (w : World) (hR : RouterAt w r g n D) :
    Calls Try.prog 13 #[.pointer (some ⟨r, 0, none⟩)] w fun e w' => e = .returned (.slice (some ⟨g, 0, none⟩) n n) ∧ w' = w := by
  obtain ⟨B, cnt, hb, hown⟩ := hR.blk
  have h1 : w.cell? ⟨r, 0, none⟩ = some (.slice (some ⟨g, 0, none⟩) n n) := by simp [World.cell?, hb, routerObj]
  go_enter Try.func13, Try.ntmps13
  go_wp2
  go_ret
  exact ⟨rfl, rfl⟩

set_option maxHeartbeats 400000 in
theorem castInstance_any (p i q : Nat) (w : World) (h : InstOf w p i q) (hi : i ≤ 65536) :
    Calls Try.prog 21 #[.pointer (some ⟨p, 0, none⟩), .int .i64 i] w fun e w' => e = .returned (.pointer (some ⟨q, 0, none⟩)) ∧ w' = w := by
  go_enter Try.func21, Try.ntmps21
  go_wp2_with (go_at_call 23; refine (instance_at _ _ _ _ h hi).mono ?_; rintro e w' ⟨rfl, rfl⟩)
  go_ret
  exact ⟨rfl, rfl⟩

set_option maxHeartbeats 400000 in
theorem instanceName_any (q : Nat) (s : ByteArray) (w : World) (h : w.cell? ⟨q, 1, none⟩ = some (.string s)) :
    Calls Try.prog 22 #[.pointer (some ⟨q, 0, none⟩)] w fun e w' => e = .returned (.string s) ∧ w' = w := by
  go_enter Try.func22, Try.ntmps22
  go_wp2
  go_ret
  exact ⟨rfl, rfl⟩

set_option maxHeartbeats 400000 in
theorem routerPlace_any (r g n : Nat) (D : DataW Unit) (s : ByteArray) (c i : Nat) (w : World) (hs : s.size ≤ maxLen) (hat : D.atKey (.string s.data.toList) (pairD 0 0) = pairD c i) (hR : RouterAt w r g n D) :
    Calls Try.prog 20 #[.pointer (some ⟨r, 0, none⟩), .string s] w fun e w' => e = .returned (.tuple #[.int .i64 c, .int .i64 i, .bool (Maps.has D (.string s.data.toList))]) ∧ Below w.heap.size w w' := by
  obtain ⟨B, cnt, hb, hown⟩ := hR.blk
  have h1 : w.cell? ⟨r, 1, none⟩ = some (.map (some B)) := by simp [World.cell?, hb, routerObj]
  clear hb hR
  have Hat : Hid (D.atKey (.string s.data.toList) (pairD 0 0) = pairD c i) := hat
  clear hat
  go_enter Try.func20, Try.ntmps20
  go_wp2_with (at_lookup; refine wpList_lookup_place _ rfl _ _ rfl B cnt D s c i rfl hown rfl hs Hat.out ?_)
  go_quiet (fail)
  go_wp2
  go_ret3
  exact ⟨rfl, below_drewN ((Below.refl _ _).alloc (Nat.le_refl _) _) _⟩

set_option maxHeartbeats 400000 in
theorem sharedSizes_any (r g n : Nat) (D : DataW Unit) (w : World) (hR : RouterAt w r g n D) :
    Calls Try.prog 14 #[.pointer (some ⟨r, 0, none⟩)] w fun e w' => e = .returned (.tuple #[.int .i64 0, .int .i64 0, .int .i64 0, .int .i64 0, .int .i64 0, .int .i64 0]) ∧ Below w.heap.size w w' := by
  obtain ⟨B, cnt, hb, hown⟩ := hR.blk
  have c0 : w.cell? ⟨r, 2, none⟩ = some (.int .i64 0) := by simp [World.cell?, hb, routerObj]
  have c1 : w.cell? ⟨r, 3, none⟩ = some (.map none) := by simp [World.cell?, hb, routerObj]
  have c2 : w.cell? ⟨r, 4, none⟩ = some (.map none) := by simp [World.cell?, hb, routerObj]
  have c3 : w.cell? ⟨r, 5, none⟩ = some (.int .i64 0) := by simp [World.cell?, hb, routerObj]
  have c4 : w.cell? ⟨r, 6, none⟩ = some (.map none) := by simp [World.cell?, hb, routerObj]
  have c5 : w.cell? ⟨r, 7, none⟩ = some (.map none) := by simp [World.cell?, hb, routerObj]
  clear hb hR
  go_enter Try.func14, Try.ntmps14
  go_wp2
  go_quiet (fail)
  go_wp2
  exact bodyPost_ret (v := .tuple #[.int .i64 0, .int .i64 0, .int .i64 0, .int .i64 0, .int .i64 0, .int .i64 0]) (by simp [results, Try.results14, go_sem]) rfl ⟨rfl, below_drewN (Below.refl _ _) _⟩

end Go.Proofs.Qxb6615834a
