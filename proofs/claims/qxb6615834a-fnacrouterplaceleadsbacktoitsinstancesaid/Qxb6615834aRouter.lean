/-
  newACRouter walked, and the readers of what it lays.
-/
import Derived.Test.Qxb6615834aBuildWalk
import Derived.Test.Qxb6615834aPlain
import Derived.Deep.QuietTactic
import Derived.BigQuiet
import Derived.Deep.RegionHeld3
namespace Go.Proofs.Qxb6615834a
open Go.RowKit Go.Maps

/-- how an acPlace in a map reads -/
def placeElem (v : Value) : Option (DataW Unit × List MemPlace) :=
  match v with
  | .agg cs => match cs.toList with
    | [.int .i64 a, .int .i64 b] => some (.agg [.lit (.int .i64 a), .lit (.int .i64 b)], [])
    | _ => none
  | _ => none
theorem placeElem_mk (a b : Int) : placeElem (.agg #[.int .i64 a, .int .i64 b]) = some (.agg [.lit (.int .i64 a), .lit (.int .i64 b)], []) := rfl
theorem placeElem_inv {v : Value} {a b : Int} {ps : List MemPlace} (h : placeElem v = some (.agg [.lit (.int .i64 a), .lit (.int .i64 b)], ps)) : v = .agg #[.int .i64 a, .int .i64 b] := by
  unfold placeElem at h
  split at h
  · rename_i cs
    split at h
    · rename_i x y hcs
      simp at h
      obtain ⟨⟨rfl, rfl⟩, _⟩ := h
      congr 1
      exact Array.toList_inj.1 (by simpa using hcs)
    · cases h
  · cases h

theorem keyed9 : Keyed Try.prog 9 := string_keyed Try.underlying9
theorem zero66 (w : World) : (zeroValue 66).run Try.prog w = .ok (.agg #[.int .i64 0, .int .i64 0]) w := by kernel_rfl
theorem key_of {s : ByteArray} (h : s.size ≤ maxLen) : keyOf Try.prog 9 (.string s) = some (.string s.data.toList) := WideMaps.keyOf_string_mk Try.underlying9 h

/-- where the instance at place i of the cast in block p lies -/
def InstOf (w : World) (p i q : Nat) : Prop :=
  (i = 0 ∧ w.cell? ⟨p, 1, none⟩ = some (.pointer (some ⟨q, 0, none⟩))) ∨
  ∃ sb m j, i = j + 1 ∧ j < m ∧ w.cell? ⟨p, 2, none⟩ = some (.slice (some ⟨sb, 0, none⟩) m m) ∧ w.cell? ⟨sb, j, none⟩ = some (.pointer (some ⟨q, 0, none⟩))

theorem CastAt.inst {w : World} {lo p L : Nat} {names : Nat → ByteArray} (h : CastAt w lo p L names) {i : Nat} (hi : i < L) : ∃ q, InstOf w p i q ∧ w.cell? ⟨q, 1, none⟩ = some (.string (names i)) := by
  cases i with
  | zero =>
    obtain ⟨q, _, h1, h2⟩ := h.first
    exact ⟨q, Or.inl ⟨rfl, h1⟩, h2⟩
  | succ j =>
    obtain ⟨sb, _, h1, h2⟩ := h.second
    obtain ⟨q, _, h3, h4⟩ := h2 j hi
    exact ⟨q, Or.inr ⟨sb, L - 1, j, rfl, by omega, h1, h3⟩, h4⟩

theorem InstOf.keep {w w' : World} {p i q : Nat} (h : InstOf w p i q) (hk : ∀ k, k < w.heap.size → w'.heap[k]? = w.heap[k]?) : InstOf w' p i q := by
  have key : ∀ {k o : Nat} {v : Value}, w.cell? ⟨k, o, none⟩ = some v → w'.cell? ⟨k, o, none⟩ = some v := fun h => cell_keep (lo := 0) (fun k _ h2 => hk k h2) (Nat.zero_le _) h
  rcases h with ⟨h0, h1⟩ | ⟨sb, m, j, h0, h1, h2, h3⟩
  · exact Or.inl ⟨h0, key h1⟩
  · exact Or.inr ⟨sb, m, j, h0, h1, key h2, key h3⟩

set_option maxHeartbeats 400000 in
theorem instance_at (p i q : Nat) (w : World) (h : InstOf w p i q) (hi : i ≤ 65536) :
    Calls Try.prog 23 #[.pointer (some ⟨p, 0, none⟩), .int .i64 i] w fun e w' => e = .returned (.pointer (some ⟨q, 0, none⟩)) ∧ w' = w := by
  rcases h with ⟨rfl, h1⟩ | ⟨sb, m, j, rfl, hj, h1, h2⟩
  · go_enter Try.func23, Try.ntmps23
    go_wp2
    go_ret
    exact ⟨rfl, rfl⟩
  · have hjm : (j : Int) < (m : Int) := by omega
    go_enter Try.func23, Try.ntmps23
    go_wp2
    go_ret
    exact ⟨rfl, rfl⟩

def routerObj (g n B : Nat) : Obj := .cells #[.slice (some ⟨g, 0, none⟩) n n, .map (some B), .int .i64 0, .map none, .map none, .int .i64 0, .map none, .map none] 53

/-- the router in block r: its casts, its map -/
structure RouterAt (w : World) (r g n : Nat) (D : DataW Unit) : Prop where
  blk : ∃ B cnt, w.heap[r]? = some (routerObj g n B) ∧ w.ownsMap Try.prog 9 placeElem B cnt D

theorem RouterAt.keep {w w' : World} {r g n : Nat} {D : DataW Unit} (h : RouterAt w r g n D) (hb : Below w.heap.size w w') : RouterAt w' r g n D := by
  obtain ⟨B, cnt, h1, h2⟩ := h.blk
  have hlt : r < w.heap.size := (Array.getElem?_eq_some_iff.1 h1).1
  exact ⟨B, cnt, by rw [hb.block r hlt]; exact h1, h2.kept (row := none) ⟨hb.os, hb.tape, hb.output, hb.size, fun i hi _ => hb.block i hi⟩ (by simp)⟩

/-- what holds of the world while the map is filled: k entries at most, reading as D -/
structure Filling (w wx : World) (g n k : Nat) (D : DataW Unit) : Prop where
  below : Below w.heap.size w wx
  blk : wx.heap[w.heap.size + 1]? = some (routerObj g n w.heap.size)
  own : wx.ownsMap Try.prog 9 placeElem w.heap.size k D

theorem Filling.map_cell {w wx : World} {g n k : Nat} {D : DataW Unit} (h : Filling w wx g n k D) : wx.cell? ⟨w.heap.size + 1, 1, none⟩ = some (.map (some w.heap.size)) := by
  simp [World.cell?, h.blk, routerObj]

theorem Filling.store {w wx : World} {g n k : Nat} {D : DataW Unit} (h : Filling w wx g n k D) (hk : k < maxLen) {s : ByteArray} (hs : s.size ≤ maxLen) (c i : Nat) :
    ∃ w1, (Instr.mapUpdate 43 (.map (some w.heap.size)) (.string s) (.agg #[.int .i64 c, .int .i64 i])).run Try.prog wx.drew = .ok () w1 ∧ Filling w w1 g n (k + 1) (putP D s c i) := by
  obtain ⟨w1, hrun, ho, ht⟩ := (h.own.drew).store keyed9 Try.underlying43 hk (key_of hs) (placeElem_mk (c : Int) (i : Int))
  have hg := ht.grown
  refine ⟨w1, hrun, ⟨h.below.drew.grown hg h.below.size (fun j hj => by cases hj; exact Nat.le_refl _), ?_, ho⟩⟩
  have hlt : w.heap.size + 1 < wx.heap.size := (Array.getElem?_eq_some_iff.1 h.blk).1
  rw [hg.block (w.heap.size + 1) hlt (by simp)]
  exact h.blk

set_option maxHeartbeats 1000000 in
theorem newACRouter_any (g n : Nat) (RL : Nat → Nat) (S : Nat → Nat → ByteArray) (w : World)
    (hn : n ≤ 32768) (hL : ∀ i, i < n → 0 < RL i ∧ RL i ≤ 65536) (hsum : rlSum RL n ≤ 65536) (hlen : ∀ i, i < n → ∀ j, j < RL i → (S i j).size ≤ maxLen) (hC : CastsTo w g n n RL S) :
    Calls Try.prog 16 #[.slice (some ⟨g, 0, none⟩) n n] w fun e w' => e = .returned (.pointer (some ⟨w.heap.size + 1, 0, none⟩)) ∧ Below w.heap.size w w' ∧ RouterAt w' (w.heap.size + 1) g n (mapA S RL n) := by
  have hmm := @run_makeMap Try.prog
  obtain ⟨f, hf, hfc⟩ := hC
  have hglt := hf.lt
  go_enter Try.func16, Try.ntmps16
  go_wp2
  clear hmm
  have hF0 : Filling w ((w.alloc (Obj.map #[] 0)).alloc (routerObj g n w.heap.size)) g n 0 (mapA S RL 0) :=
    ⟨((Below.refl _ _).alloc (Nat.le_refl _) _).alloc (by simp) _, by rw [← Deep.nblk_alloc w (Obj.map #[] 0)]; exact Deep.blk_alloc_new _ _, (World.ownsMap_made w _ _ _).alloc _⟩
  unfold routerObj at hF0
  go_loopg [13] n (fun gk i wr => ∃ c : Nat, c ≤ n ∧ gk = n - c ∧ i = .int .i64 c ∧ Filling w wr g n (rlSum RL c) (mapA S RL c))
  case atStart => exact ⟨0, Nat.zero_le _, rfl, rfl, hF0⟩
  case round =>
    clear hF0
    obtain ⟨c, hc, rfl, rfl, hF⟩ := hrel
    by_cases hlt : c < n
    · have hrz : (c : Int) < (n : Int) := by omega
      obtain ⟨hL0, hL1⟩ := hL c hlt
      obtain ⟨p, hfp, hcast⟩ := hfc c hlt
      have g0 : wr.cell? ⟨g, c, none⟩ = some (.pointer (some ⟨p, 0, none⟩)) := by rw [hF.below.cell (p := ⟨g, c, none⟩) hglt, hf.cell hlt, hfp]
      have hsc : rlSum RL (c + 1) ≤ rlSum RL n := rlSum_mono RL hlt
      have hsc' : rlSum RL c + RL c ≤ 65536 := Nat.le_trans hsc hsum
      clear hsc
      go_wp2
      go_loopg [6] (RL c) (fun gk i wx => ∃ j : Nat, j ≤ RL c ∧ gk = RL c - j ∧ i = .int .i64 j ∧ Filling w wx g n (rlSum RL c + j) (mapI S c (mapA S RL c) j))
      case atStart => exact ⟨0, Nat.zero_le _, rfl, rfl, hF⟩
      case round =>
        clear g0 hF
        obtain ⟨j, hj, rfl, rfl, hF⟩ := hrel
        have hcx := hcast.keep (w' := wr) (fun k _ h2 => hF.below.block k h2)
        have g1 := hcx.num
        by_cases hjl : j < RL c
        · have hjz : (j : Int) ≤ (RL c : Int) - 1 := by omega
          obtain ⟨q, hq0, hqn⟩ := hcast.inst hjl
          have hqb : q < w.heap.size := World.block_lt_of_cell? _ _ hqn
          have hq1 : InstOf wr p j q := hq0.keep (fun k h => hF.below.block k h)
          have hq2 : wr.cell? ⟨q, 1, none⟩ = some (.string (S c j)) := by rw [hF.below.cell (p := ⟨q, 1, none⟩) hqb]; exact hqn
          have g2 := hF.map_cell
          obtain ⟨w1, hrun, hF1⟩ := hF.store (by unfold maxLen; omega) (hlen c hlt j hjl) c j
          have hs1 := hF1.map_cell
          have hs2 : w1.cell? ⟨q, 1, none⟩ = some (.string (S c j)) := by rw [hF1.below.cell (p := ⟨q, 1, none⟩) hqb]; exact hqn
          have hj6 : j ≤ 65536 := by omega
          have hq1d : InstOf wr.drew p j q := hq1
          go_wp2_with fail
          go_region_held3 (fun w' => w'.cell? ⟨w.heap.size + 1, 1, none⟩ = some (.map (some w.heap.size)) ∧ w'.cell? ⟨q, 1, none⟩ = some (.string (S c j))) (go_keep)
            ((go_at_call 23; refine (instance_at p j q _ hq1d hj6).mono ?_; rintro e w' ⟨rfl, rfl⟩))
          all_goals go_wp2
          all_goals
            go_roundg (RL c - (j + 1))
            case measure => go_light; omega
            case rel => go_light; exact ⟨j + 1, by omega, rfl, by go_num, hF1⟩
        · have hjz : ¬ ((j : Int) ≤ (RL c : Int) - 1) := by omega
          have e : j = RL c := by omega
          subst e
          go_wp2
          go_roundg (n - (c + 1))
          case measure => go_light; omega
          case rel => go_light; exact ⟨c + 1, by omega, rfl, by go_num, hF⟩
    · go_wp2
      have e : c = n := by omega
      subst e
      go_ret
      exact ⟨rfl, hF.below, ⟨_, _, hF.blk, hF.own⟩⟩

end Go.Proofs.Qxb6615834a
