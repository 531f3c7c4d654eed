/-
  slices.SortFunc over pairs, with pruneGraph's comparison.
-/
import Derived.Test.Qxb6615834aFmtReach
import Derived.Shelf.SlSortCmp.NoneTotal
import Derived.Shelf.SlicesG.Cmp
import Derived.Shelf.Lay
import Derived.Ground.SlsfProg
import Derived.Ground.SlgcProg
namespace Go.Proofs
open Go.Shelf Go.RowKit Go.Lib Go.Sort
shelf_lay_g SlLaysF0.n6 Slsf 6 at Tryf 38 as Tryf.sortPair
shelf_lay_g SlLaysC2.n5 Slgc 5 at Tryf 41 as Tryf.cmpInt
end Go.Proofs
namespace Go.Proofs.Qxb6615834aFmt
open Go.Shelf Go.RowKit Go.Lib Go.Sort Go.Deep

theorem wide_fn (f : FuncId) : Fence.wide.fn f = True := rfl
attribute [local go_sem] wide_fn
attribute [local simp] wide_fn

/-- cmp.Or of two. -/
def or2 (a b : Int) : Int := if a = 0 then b else a

set_option maxHeartbeats 1000000 in
theorem cmpOr_any (b : Nat) (x y : Int) (w : World) (c0 : w.cell? ⟨b, 0, none⟩ = some (.int .i64 x)) (c1 : w.cell? ⟨b, 1, none⟩ = some (.int .i64 y)) :
    Calls Tryf.prog 40 #[.slice (some ⟨b, 0, none⟩) 2 2] w fun e w' => e = .returned (.int .i64 (or2 x y)) ∧ w' = w := by
  go_enter Tryf.func40, Tryf.ntmps40
  go_wp2_with fail
  go_loopg [8] 2 (fun g v wr => ∃ j : Nat, j ≤ 2 ∧ g = 2 - j ∧ v = .int .i64 j ∧ wr = w ∧ (1 ≤ j → x = 0) ∧ (2 ≤ j → y = 0))
  case atStart => exact ⟨0, by omega, rfl, rfl, rfl, fun h => by omega, fun h => by omega⟩
  case round =>
    obtain ⟨j, hj, rfl, rfl, rfl, h1, h2⟩ := hrel
    have hc : j = 0 ∨ j = 1 ∨ j = 2 := by omega
    rcases hc with rfl | rfl | rfl
    · by_cases hx : x = 0
      · subst hx
        go_wp2_with fail
        go_roundg (2 - 1)
        case measure => omega
        case rel => exact ⟨1, by omega, rfl, rfl, rfl, fun _ => trivial, fun h => by omega⟩
      · go_wp2_with fail
        go_ret
        exact ⟨by simp [or2, hx], rfl⟩
    · have hx := h1 (by omega)
      by_cases hy : y = 0
      · subst hy
        go_wp2_with fail
        go_roundg (2 - 2)
        case measure => omega
        case rel => exact ⟨2, by omega, rfl, rfl, rfl, fun _ => hx, fun _ => trivial⟩
      · go_wp2_with fail
        go_ret
        exact ⟨by simp [or2, hx], rfl⟩
    · have hx := h1 (by omega)
      have hy := h2 (by omega)
      go_wp2_with fail
      go_ret
      exact ⟨by simp [or2, hx, hy], rfl⟩

theorem grow_drewN (w : World) (os : Array Obj) (q : Nat) : (grow w os).drewN q = grow (w.drewN q) os := rfl

/-- A pair's two cells. -/
def encP (x : Nat × Nat) : List Value := [.int .i64 ((x.1 : Int) + 1), .int .i64 ((x.2 : Int) + 1)]

def cmpP (x y : Nat × Nat) : Int := or2 (Lib.compareInt ((x.1 : Int) + 1) ((y.1 : Int) + 1)) (Lib.compareInt ((x.2 : Int) + 1) ((y.2 : Int) + 1))

set_option maxRecDepth 100000 in
set_option maxHeartbeats 1000000 in
theorem closure39 (x y : Nat × Nat) (W : World) : Calls Tryf.prog 39 #[.agg #[.int .i64 ((x.1 : Int) + 1), .int .i64 ((x.2 : Int) + 1)], .agg #[.int .i64 ((y.1 : Int) + 1), .int .i64 ((y.2 : Int) + 1)]] W fun e w' => e = .returned (.int .i64 (cmpP x y)) ∧ ∃ q os', w' = grow (W.drewN q) os' := by
  have hcon := fun a b W' => AnyG.cmp_Compare_int Tryf.cmpInt a b W'
  change ∀ a b W', Calls Tryf.prog 41 _ _ _ at hcon
  have hmx : Tryf.prog.follows .mixedOrders = true := by kernel_rfl
  unfold cmpP
  generalize ((x.1 : Int) + 1) = x1
  generalize ((x.2 : Int) + 1) = x2
  generalize ((y.1 : Int) + 1) = y1
  generalize ((y.2 : Int) + 1) = y2
  go_enter Tryf.func39, Tryf.ntmps39
  go_wp2_with fail
  refine (wpIn_wide (n := 10)).1 ?_
  obtain ⟨V, hV⟩ : ∃ V, (W.alloc (.cells #[.int .i64 x1, .int .i64 x2] 43)).alloc (.cells #[.int .i64 y1, .int .i64 y2] 43) = V := ⟨_, rfl⟩
  have hg : ∃ q os', V = grow (W.drewN q) os' := ⟨0, _, by rw [← hV, alloc_eq_grow, alloc_eq_grow, grow_grow]; rfl⟩
  have c1 : V.cell? ⟨W.heap.size, 0, none⟩ = some (.int .i64 x1) := by rw [← hV]; simp
  have c2 : V.cell? ⟨W.heap.size, 1, none⟩ = some (.int .i64 x2) := by rw [← hV]; simp
  have c3 : V.cell? ⟨W.heap.size + 1, 0, none⟩ = some (.int .i64 y1) := by rw [← hV]; simp
  have c4 : V.cell? ⟨W.heap.size + 1, 1, none⟩ = some (.int .i64 y2) := by rw [← hV]; simp
  rw [hV]
  clear hV
  refine wpIn_wide_tail 10 hmx (by kernel_rfl) ?_
  simp only [List.take_succ_cons, List.take_zero, List.drop_succ_cons, List.drop_zero]
  repeat (gi_big_quiet_step (first | (gi_at_call 41; refine CallsIn.quiet_of_same (callsIn_wide.2 (hcon _ _ _)))))
  refine wpQuietIn_nil ?_
  rintro V2 ⟨nq, hV2⟩
  have hg2 : ∃ q os', V2 = grow (W.drewN q) os' := by
    obtain ⟨q, os, rfl⟩ := hg
    exact ⟨q + nq, os, by rw [hV2, grow_drewN, World.drewN_drewN]⟩
  clear hV2
  gi_wp2_with fail
  refine (callsIn_wide.2 (cmpOr_any V2.heap.size (Lib.compareInt x1 y1) (Lib.compareInt x2 y2) _ (by simp) (by simp))).mono ?_
  rintro e w' ⟨rfl, rfl⟩
  gi_wp2_with fail
  go_wp2_with fail
  go_ret
  obtain ⟨q, os, rfl⟩ := hg2
  exact ⟨rfl, q, _, by rw [alloc_eq_grow, grow_grow]⟩

theorem cmpLays39 (blk off size : Nat) (w : World) : CmpLays Tryf.prog 39 #[] encP 2 cmpP blk off size w := fun _ _ _ _ x y => closure39 x y _

/-- Pairs in their order. -/
def ltP (x y : Nat × Nat) : Bool := decide (x.1 < y.1 ∨ (x.1 = y.1 ∧ x.2 < y.2))

theorem ltOf_cmpP (x y : Nat × Nat) : ltOf cmpP x y = ltP x y := by
  unfold ltOf cmpP or2 ltP Lib.compareInt
  by_cases h1 : (x.1 : Int) + 1 < (y.1 : Int) + 1
  · have : x.1 < y.1 := by omega
    simp [this]
  · by_cases h2 : (y.1 : Int) + 1 < (x.1 : Int) + 1
    · have h3 : ¬ x.1 < y.1 := by omega
      have h4 : ¬ x.1 = y.1 := by omega
      have h5 : y.1 < x.1 := by omega
      simp [h3, h4, h5]
    · have h3 : x.1 = y.1 := by omega
      by_cases h4 : x.2 < y.2
      · simp [h3, h4]
      · by_cases h5 : y.2 < x.2 <;> simp [h3, h4, h5]

theorem swoP : SWO (ltOf cmpP) where
  irrefl x := by rw [ltOf_cmpP]; simp [ltP]
  trans x y z h1 h2 := by rw [ltOf_cmpP] at *; simp [ltP] at *; omega
  ntrans x y z h1 h2 := by rw [ltOf_cmpP] at *; simp [ltP] at *; omega

theorem totalP (x y : Nat × Nat) (h1 : ltOf cmpP x y = false) (h2 : ltOf cmpP y x = false) : x = y := by
  rw [ltOf_cmpP] at h1 h2
  simp [ltP] at h1 h2
  obtain ⟨x1, x2⟩ := x
  obtain ⟨y1, y2⟩ := y
  simp only [Prod.mk.injEq] at *
  omega

end Go.Proofs.Qxb6615834aFmt
