/-
  View: the walk.
-/
import Derived.Test.Qxb6615834aFmtValid
import Derived.Test.Qxb6615834aFmtPgm
import Derived.Test.Qxb6615834aFmtZz2
namespace Go.Proofs.Qxb6615834aFmt
open Go.RowKit Go.Deep Go.Extern.Stop Go.Stop Go.Extern
attribute [local go_sem] wide_fnV
attribute [local simp] wide_fnV

/-- The parties of xs lie from g's first cell on. -/
def IntsAt (w : World) (g : Nat) (xs : List Nat) : Prop := ∀ i, i < xs.length → w.cell? ⟨g, i, none⟩ = some (.int .i64 (((xs[i]?.getD 0 : Nat) : Int) + 1))

theorem ints_of_owns {w : World} {base g cap : Nat} {xs : List Nat} (h : w.ownsRow base 3 1 (.slice (some ⟨g, 0, none⟩) xs.length cap) xs.length (partyCells xs)) : IntsAt w g xs := fun i hi => by
  have h1 := h.cellAt i (by omega)
  rw [h1]
  simp [partyCells, hi]

/-- What View leaves. -/
structure VOut (w : World) (n h p s : Nat) (G : Nat → Nat → Bool) (bV : Nat) (N : Nat → Nat → Bool) (S : Nat → Bool) (pr : List (Nat × Nat)) (g4 c4 g5 c5 g cap : Nat) (w' : World) : Prop where
  core : Core N G n h
  reach : ∀ x, S x = true ↔ x < n ∧ Reach N p x
  prIff : ∀ x y, x < y → y < n → ((x, y) ∈ pr ↔ G x y = true ∧ N x y = false)
  prOk : ∀ p ∈ pr, p.1 < p.2 ∧ p.2 < n
  prNodup : pr.Nodup
  prLen : pr.length ≤ n * n
  view : w'.rowIs bV 45 5 (fun i => if i = 0 then .int .i64 ((p : Int) + 1) else if i = 1 then .slice (some ⟨g4, 0, none⟩) (upE S n).length c4 else if i = 2 then .slice (some ⟨g5, 0, none⟩) (upE (notB S) n).length c5 else if i = 3 then .bool (!S s) else .slice (some ⟨g, 0, none⟩) pr.length cap)
  alive : IntsAt w' g4 (upE S n)
  corrupt : IntsAt w' g5 (upE (notB S) n)
  pairs : PairsAt w' g (sortP pr)
  lt : g4 < w'.heap.size ∧ g5 < w'.heap.size ∧ g < w'.heap.size
  below : Below w.heap.size w w'

set_option maxRecDepth 100000 in
set_option maxHeartbeats 2000000 in
theorem view_no (F : Interp) (bG : Nat) (n t s p : Int) (A : Option Addr) (b c : Nat) (l : List (Int × Int)) (w : World) (hF : F.answers w.tape) (hg : AGAt w bG n t s (.slice A l.length c)) (hA : 0 < l.length → A = some ⟨b, 0, none⟩) (h : IPAt w b 0 l) (hl : l.length ≤ 1048576)
    (hbad : ¬ ((headOk n t s ∧ allOk n l) ∧ 1 ≤ p ∧ p ≤ n)) :
    Calls Tryf.prog 10 #[.pointer (some ⟨bG, 0, none⟩), .int .i64 p] w fun e w' => (∃ a, e = .returned (.tuple #[.pointer none, .iface 89 (.pointer (some a))])) ∧ Below w.heap.size w w' := by
  have hv := validate_any F bG n t s A b c l w hF hg hA h hl
  by_cases hgd : headOk n t s ∧ allOk n l
  · have hp : ¬ (1 ≤ p ∧ p ≤ n) := fun e => hbad ⟨hgd, e⟩
    have hpb := partyB_false hp
    have hgl : bG < w.heap.size := World.rowIs.lt hg
    replace hgd := Kept.of hgd
    clear hbad hp
    go_enter Tryf.func10, Tryf.ntmps10
    go_wp2_with (first | (go_at_call 22; refine hv.mono ?_; rintro e w' ⟨hr, hb⟩; obtain rfl := hr.1 hgd; have hF2 : F.answers w'.tape := (by rw [hb.tape]; exact hF); have c0 := (hb.cell (p := ⟨bG, 0, none⟩) hgl).trans hg.cells.1) | (go_at_call 21; refine (checkParty_no F _ _ _ _ (by assumption) hpb).mono ?_; rintro e w2 ⟨⟨a, rfl⟩, hb2⟩))
    go_ret2
    exact ⟨⟨a, rfl⟩, hb.trans (hb2.mono hb.size)⟩
  · replace hgd := Kept.of hgd
    go_enter Tryf.func10, Tryf.ntmps10
    go_wp2_with (go_at_call 22; refine hv.mono ?_; rintro e w' ⟨hr, hb⟩; obtain ⟨a, rfl⟩ := hr.2 hgd)
    go_ret2
    exact ⟨⟨a, rfl⟩, hb⟩

set_option maxRecDepth 100000 in
set_option maxHeartbeats 4000000 in
theorem view_ok (F : Interp) (bG n t s p m : Nat) (A : Option Addr) (b c : Nat) (acc : List (Nat × Nat)) (w : World) (hF : F.answers w.tape) (hg : AGAt w bG n t ((s : Int) + 1) (.slice A (accI acc).length c)) (hA : 0 < (accI acc).length → A = some ⟨b, 0, none⟩) (h : IPAt w b 0 (accI acc)) (hl : acc.length ≤ 1048576)
    (hn : n ≤ 1024) (hn2 : 2 ≤ n) (htn : t < n) (hs : s < n) (hp : p < n) (hm : (n + 63) / 64 = m) (ht : TabAt w) (hacc : ∀ p ∈ acc, p.1 < n ∧ p.2 < n ∧ p.1 ≠ p.2) :
    Calls Tryf.prog 10 #[.pointer (some ⟨bG, 0, none⟩), .int .i64 ((p : Int) + 1)] w fun e w' => ∃ bV N S pr g4 c4 g5 c5 g cap, e = .returned (.tuple #[.pointer (some ⟨bV, 0, none⟩), .nilIface]) ∧ VOut w n (n - t) p s (cutL (fullN n) acc) bV N S pr g4 c4 g5 c5 g cap w' := by
  have hm16 : m ≤ 16 := by omega
  have hnm : n ≤ 64 * m := by omega
  have hgd : headOk n t ((s : Int) + 1) ∧ allOk n (accI acc) := by
    refine ⟨⟨by omega, by omega, by omega, by omega, by omega, by omega⟩, fun i hi => ?_⟩
    rw [accI_length] at hi
    rw [accI_get acc hi]
    have := hacc (acc[i]) (List.getElem_mem hi)
    have e : acc[i]?.getD (0, 0) = acc[i] := by simp [hi]
    rw [e]
    obtain ⟨h1, h2, h3⟩ := this
    refine ⟨?_, ?_, ?_, ?_, ?_⟩ <;> simp only <;> omega
  have hpb : partyB ((p : Int) + 1) n = true := partyB_true (by omega)
  have hv := validate_any F bG n t ((s : Int) + 1) A b c (accI acc) w hF hg hA h (by rw [accI_length]; exact hl)
  have hgl : bG < w.heap.size := World.rowIs.lt hg
  have h0l : 0 < w.heap.size := by have := block_lt_of_cell (ht 0 (by omega)); simpa using this
  have hmx : Tryf.prog.follows .mixedOrders = true := by kernel_rfl
  replace hgd := Kept.of hgd
  rw [accI_length] at hg hA
  go_enter Tryf.func10, Tryf.ntmps10
  go_wp2_with (first | (go_at_call 22; refine hv.mono ?_; rintro e w1 ⟨hr, hb⟩; obtain rfl := hr.1 hgd; have c0 := (hb.cell (p := ⟨bG, 0, none⟩) hgl).trans hg.cells.1) | (go_at_call 21; refine (checkParty_ok _ _ _ _ hpb).mono ?_; rintro e w2 ⟨rfl, hw2⟩; subst hw2))
  clear hv hr c0
  have g1 : AGAt w2 bG n t ((s : Int) + 1) (.slice A acc.length c) := World.rowIs.of_block hg (hb.block _ hgl)
  obtain ⟨c0, c1, c2, c3⟩ := g1.cells
  refine (wpIn_wide (n := 10)).1 ?_
  refine wpIn_wide_tail 12 hmx (by kernel_rfl) ?_
  simp only [List.take_succ_cons, List.take_zero, List.drop_succ_cons, List.drop_zero]
  repeat (gi_big_quiet_step (fail))
  refine wpQuietIn_nil ?_
  rintro W ⟨nq, hW⟩
  have hBW : Below w.heap.size w W := by rw [hW]; exact below_drewN hb nq
  have gW : AGAt W bG n t ((s : Int) + 1) (.slice A acc.length c) := by rw [hW]; exact g1
  clear hW c0 c1 c2 c3 g1 hb
  have htW : TabAt W := fun j hj => (hBW.cell (p := ⟨0, j, none⟩) h0l).trans (ht j hj)
  have hpW : PairsAt W b acc := fun i hi => by
    have hi' : i < (accI acc).length := by rw [accI_length]; exact hi
    obtain ⟨x1, x2⟩ := h i hi'
    rw [accI_get acc hi, Nat.zero_add] at x1 x2
    have hbl : b < w.heap.size := block_lt_of_cell x1
    exact ⟨(hBW.cell (p := ⟨b, i * 2, none⟩) hbl).trans x1, (hBW.cell (p := ⟨b, i * 2 + 1, none⟩) hbl).trans x2⟩
  have hWs := hBW.size
  have hprn := prune_any n t A b c acc W hn (by omega) htn m hm htW hA hpW hacc hl
  gi_wp2_with fail
  refine (callsIn_wide.2 hprn).mono ?_
  rintro e w3 ⟨N, pr, g, cap, rfl, P⟩
  clear hprn
  gi_wp2_with fail
  have hB3 : Below w.heap.size w w3 := hBW.trans (P.below.mono hWs)
  have ht3 : TabAt w3 := fun j hj => (hB3.cell (p := ⟨0, j, none⟩) h0l).trans (ht j hj)
  have g3 : AGAt w3 bG n t ((s : Int) + 1) (.slice A acc.length c) := World.rowIs.of_block hg (hB3.block _ hgl)
  have hs3 := hB3.size
  have hrc := reachable_any (W.heap.size + 3) (W.heap.size + 1) n m p (fun p => W.heap.size + 5 + p) N (.slice (some ⟨g, 0, none⟩) pr.length cap) w3 P.graph P.nb hm16 hm ht3 hp P.core.gr.lt
  go_wp2_with (go_at_call 24; refine hrc.mono ?_; rintro e w4 ⟨S, rfl, hS4, hre, hB4⟩)
  clear hrc
  have hgr4 : GAt w4 (W.heap.size + 3) (W.heap.size + 1) n (.slice (some ⟨g, 0, none⟩) pr.length cap) := World.rowIs.of_block P.graph (hB4.block _ (World.rowIs.lt P.graph))
  have hB4' : Below w.heap.size w w4 := hB3.trans (hB4.mono hs3)
  have g4 : AGAt w4 bG n t ((s : Int) + 1) (.slice A acc.length c) := World.rowIs.of_block hg (hB4'.block _ hgl)
  obtain ⟨c0, c1, c2, c3⟩ := g4.cells
  have cp := hgr4.pr
  have hcon : ∀ q, Calls Tryf.prog 25 #[.slice (some ⟨w3.heap.size, 0, none⟩) m m, .int .i64 ((s : Int) + 1)] (w4.drewN q) fun e w' => e = .returned (.bool (S s)) ∧ ∃ j, w' = (w4.drewN q).drewN j := fun q =>
    (has_any w3.heap.size m s S (by omega) hm16 (w4.drewN q) hS4).mono (fun _ _ ⟨h1, h2⟩ => ⟨h1, 1, h2⟩)
  refine (wpIn_wide (n := 10)).1 ?_
  refine wpIn_wide_tail 13 hmx (by kernel_rfl) ?_
  simp only [List.take_succ_cons, List.take_zero, List.drop_succ_cons, List.drop_zero]
  repeat (gi_big_quiet_step (first | (gi_at_call 25; refine CallsIn.quiet_of (callsIn_wide.2 (hcon _)))))
  refine wpQuietIn_nil ?_
  rintro W5 ⟨nq5, hW5⟩
  have T5 : Turns (fun _ => False) w4 W5 := by rw [hW5]; exact (Turns.refl _ w4).drewN nq5
  have z5 : W5.heap.size = w4.heap.size := by rw [hW5]; rfl
  clear hW5 hcon c0 c1 c2 c3 cp
  obtain ⟨bV, hbV4⟩ : ∃ bV, w4.heap.size = bV := ⟨_, rfl⟩
  rw [hbV4] at z5
  have hbV := z5
  have T6 : Turns (fun _ => False) W5 (W5.alloc (.cells #[.int .i64 ((p : Int) + 1), .slice none 0 0, .slice none 0 0, .bool (!S s), .slice (some ⟨g, 0, none⟩) pr.length cap] 45)) := (Turns.refl _ W5).alloc _
  have q6 : (W5.alloc (.cells #[.int .i64 ((p : Int) + 1), .slice none 0 0, .slice none 0 0, .bool (!S s), .slice (some ⟨g, 0, none⟩) pr.length cap] 45)).rowIs bV 45 5 (fun i => if i = 0 then .int .i64 ((p : Int) + 1) else if i = 1 then .slice none 0 0 else if i = 2 then .slice none 0 0 else if i = 3 then .bool (!S s) else .slice (some ⟨g, 0, none⟩) pr.length cap) := by
    rw [← hbV]
    exact World.rowIs_alloc W5 #[.int .i64 ((p : Int) + 1), .slice none 0 0, .slice none 0 0, .bool (!S s), .slice (some ⟨g, 0, none⟩) pr.length cap] 45 _ (fun i hi => by
      have : i = 0 ∨ i = 1 ∨ i = 2 ∨ i = 3 ∨ i = 4 := by simp at hi; omega
      rcases this with rfl | rfl | rfl | rfl | rfl <;> rfl)
  have z6 : (W5.alloc (.cells #[.int .i64 ((p : Int) + 1), .slice none 0 0, .slice none 0 0, .bool (!S s), .slice (some ⟨g, 0, none⟩) pr.length cap] 45)).heap.size = bV + 1 := by simp [hbV]
  generalize hX6 : W5.alloc (.cells #[.int .i64 ((p : Int) + 1), .slice none 0 0, .slice none 0 0, .bool (!S s), .slice (some ⟨g, 0, none⟩) pr.length cap] 45) = X6 at T6 q6 z6
  have TX := T5.trans T6
  have S6 : SetAt X6 w3.heap.size m S := TX.row hS4 (fun e => e)
  have g6 : AGAt X6 bG n t ((s : Int) + 1) (.slice A acc.length c) := TX.row g4 (fun e => e)
  have hB6 : Below w.heap.size w X6 := hB4'.trans (TX.below (fun _ _ e => e.elim) hB4'.size)
  gi_wp2_with fail
  obtain ⟨c0, c1, c2, c3⟩ := g6.cells
  have hsp := split_any w3.heap.size n m S X6 S6 hm16 hnm
  have hgX : bG < X6.heap.size := World.rowIs.lt g6
  clear hX6
  go_wp2_with (go_at_call 26; refine hsp.mono ?_; rintro e w7 ⟨v4, v5, rfl, hsa⟩; obtain ⟨g4, c4, rfl⟩ := hsa.i4; obtain ⟨g5, c5, rfl⟩ := hsa.i5; have r7 := World.rowIs.of_block q6 (hsa.below.block bV (by omega)); have k1 := r7.cell (i := 1) (by omega); have kf1 := r7.frozen 1; have r8 := r7.set 1 (.slice (some ⟨g4, 0, none⟩) (upE S n).length c4); have k2 := r8.cell (i := 2) (by omega); have kf2 := r8.frozen 2)
  have r9 := r8.set 2 (.slice (some ⟨g5, 0, none⟩) (upE (notB S) n).length c5)
  go_ret2
  have l4 := hsa.o4.lt g4 rfl
  have l5 := hsa.o5.lt g5 rfl
  have T9 : Turns (fun j => j = bV) w7 ((w7.setCell ⟨bV, 1, none⟩ (.slice (some ⟨g4, 0, none⟩) (upE S n).length c4)).setCell ⟨bV, 2, none⟩ (.slice (some ⟨g5, 0, none⟩) (upE (notB S) n).length c5)) :=
    ((Turns.refl (fun j => j = bV) w7).setCell (a := ⟨bV, 1, none⟩) rfl _).setCell (a := ⟨bV, 2, none⟩) rfl _
  have hsz7 := hsa.below.size
  have hszp := P.hg
  have hb4s := hB4.size
  have hg7 : w7.heap[g]? = w3.heap[g]? := by
    rw [hsa.below.block g (by omega), TX.block g (by omega) (fun e => e), hB4.block g (by omega)]
  have hgne : ¬ g = bV := by omega
  refine ⟨bV, N, S, pr, g4, c4, g5, c5, g, cap, rfl, P.core, hre, P.prIff, P.prOk, P.prNodup, P.prLen, ?_, ?_, ?_, ?_, ?_, ?_⟩
  · refine r9.congr fun i hi => ?_
    have : i = 0 ∨ i = 1 ∨ i = 2 ∨ i = 3 ∨ i = 4 := by omega
    rcases this with rfl | rfl | rfl | rfl | rfl <;> rfl
  · exact ints_of_owns (T9.owns hsa.o4 (fun k hk e => by simp [Value.ownBlock] at hk; omega))
  · exact ints_of_owns (T9.owns hsa.o5 (fun k hk e => by simp [Value.ownBlock] at hk; omega))
  · intro i hi
    obtain ⟨y1, y2⟩ := P.pairs i hi
    have hblk := (T9.block g (by omega) hgne).trans hg7
    exact ⟨(World.cell?_of_block (a := ⟨g, i * 2, none⟩) hblk).trans y1, (World.cell?_of_block (a := ⟨g, i * 2 + 1, none⟩) hblk).trans y2⟩
  · have := T9.size
    omega
  · exact (hB6.trans (hsa.below.mono hB6.size)).trans (T9.below (fun k _ e => by have := hB4'.size; omega) (by have := hB6.size; omega))

end Go.Proofs.Qxb6615834aFmt
