/-
  zzJoinedPlace and zzLeadsBack walked.
-/
import Derived.Test.Qxb6615834aReads
namespace Go.Proofs.Qxb6615834a
open Go.RowKit Go.Maps

theorem NamesAt.keep {w w' : World} {b off n : Nat} {RL RC RB RO : Nat → Nat} {S : Nat → Nat → ByteArray} (h : NamesAt w b off n RL RC RB RO S) (hb : Below w.heap.size w w') : NamesAt w' b off n RL RC RB RO S := by
  have key : ∀ {k o : Nat} {v : Value}, w.cell? ⟨k, o, none⟩ = some v → w'.cell? ⟨k, o, none⟩ = some v := fun h => cell_keep (lo := 0) (fun k _ h2 => hb.block k h2) (Nat.zero_le _) h
  refine ⟨fun i hi => ?_, fun i hi j hj => key (h.name i hi j hj), h.fit⟩
  obtain ⟨ra, h1, h2⟩ := h.row i hi
  exact ⟨ra, key h1, h2⟩

theorem place_some (r g n : Nat) (RL : Nat → Nat) (S : Nat → Nat → ByteArray) (s : ByteArray) (c i : Nat) (w : World) (hs : s.size ≤ maxLen) (hp : lp S RL s n = some (c, i)) (hR : RouterAt w r g n (mapA S RL n)) :
    Calls Try.prog 20 #[.pointer (some ⟨r, 0, none⟩), .string s] w fun e w' => e = .returned (.tuple #[.int .i64 c, .int .i64 i, .bool true]) ∧ Below w.heap.size w w' := by
  refine (routerPlace_any r g n _ s c i w hs (by rw [at_mapA, hp]; rfl) hR).mono ?_
  rintro e w' ⟨rfl, hb⟩
  exact ⟨by rw [has_mapA, hp]; rfl, hb⟩
theorem place_none (r g n : Nat) (RL : Nat → Nat) (S : Nat → Nat → ByteArray) (s : ByteArray) (w : World) (hs : s.size ≤ maxLen) (hp : lp S RL s n = none) (hR : RouterAt w r g n (mapA S RL n)) :
    Calls Try.prog 20 #[.pointer (some ⟨r, 0, none⟩), .string s] w fun e w' => e = .returned (.tuple #[.int .i64 0, .int .i64 0, .bool false]) ∧ Below w.heap.size w w' := by
  refine (routerPlace_any r g n _ s 0 0 w hs (by rw [at_mapA, hp]; rfl) hR).mono ?_
  rintro e w' ⟨rfl, hb⟩
  exact ⟨by rw [has_mapA, hp]; rfl, hb⟩
theorem last_some (A : Option Addr) (b off n cap : Nat) (RL RC RB RO : Nat → Nat) (S : Nat → Nat → ByteArray) (s : ByteArray) (c i : Nat) (w : World)
    (hn : n ≤ 9223372036854775807) (hA : 0 < n → A = some ⟨b, off, none⟩) (hN : NamesAt w b off n RL RC RB RO S) (hp : lp S RL s n = some (c, i)) :
    Calls Try.prog 19 #[.slice A n cap, .string s] w fun e w' => e = .returned (.tuple #[.int .i64 c, .int .i64 i, .bool true]) ∧ w' = w := by
  refine (lastPlace_any A b off n cap RL RC RB RO S s w hn hA hN).mono ?_
  rintro e w' ⟨rfl, rfl⟩
  exact ⟨by rw [hp]; rfl, rfl⟩
theorem last_none (A : Option Addr) (b off n cap : Nat) (RL RC RB RO : Nat → Nat) (S : Nat → Nat → ByteArray) (s : ByteArray) (w : World)
    (hn : n ≤ 9223372036854775807) (hA : 0 < n → A = some ⟨b, off, none⟩) (hN : NamesAt w b off n RL RC RB RO S) (hp : lp S RL s n = none) :
    Calls Try.prog 19 #[.slice A n cap, .string s] w fun e w' => e = .returned (.tuple #[.int .i64 0, .int .i64 0, .bool false]) ∧ w' = w := by
  refine (lastPlace_any A b off n cap RL RC RB RO S s w hn hA hN).mono ?_
  rintro e w' ⟨rfl, rfl⟩
  exact ⟨by rw [hp]; rfl, rfl⟩

theorem below2 {w w1 w2 : World} (h1 : Below w.heap.size w w1) (h2 : Below w1.heap.size w1 w2) : Below w.heap.size w w2 := h1.trans (h2.mono h1.size)
theorem below3 {w w1 w2 w3 : World} (h1 : Below w.heap.size w w1) (h2 : Below w1.heap.size w1 w2) (h3 : Below w2.heap.size w2 w3) : Below w.heap.size w w3 := below2 (below2 h1 h2) h3

set_option maxHeartbeats 1000000 in
theorem joined_any (A : Option Addr) (b off k m cap ra ga rl gl rr gr : Nat) (RL RC RB RO : Nat → Nat) (S : Nat → Nat → ByteArray) (s : ByteArray) (w : World)
    (hn : k + m ≤ 32768) (hA : 0 < k + m → A = some ⟨b, off, none⟩) (hN : NamesAt w b off (k + m) RL RC RB RO S) (hs : s.size ≤ maxLen)
    (h1 : RouterAt w ra ga (k + m) (mapA S RL (k + m))) (h2 : RouterAt w rl gl k (mapA S RL k)) (h3 : RouterAt w rr gr m (mapA (fun x => S (k + x)) (fun x => RL (k + x)) m)) :
    Calls Try.prog 11 #[.pointer (some ⟨ra, 0, none⟩), .pointer (some ⟨rl, 0, none⟩), .pointer (some ⟨rr, 0, none⟩), .int .i64 k, .slice A (k + m : Nat) cap, .string s] w fun e w' => e = .returned (.bool true) ∧ Below w.heap.size w w' := by
  have hcut := lp_cut S RL s k m
  cases hr : lp (fun x => S (k + x)) (fun x => RL (k + x)) s m with
  | some t =>
    obtain ⟨c, i⟩ := t
    have hcm := (lp_spec hr).1
    have Hr : Hid (lp (fun x => S (k + x)) (fun x => RL (k + x)) s m = some (c, i)) := hr
    rw [hr] at hcut
    have Hcut : Hid (lp S RL s (k + m) = some (k + c, i)) := hcut
    clear hcut hr
    cases hl : lp S RL s k with
    | some t =>
      obtain ⟨cl, il⟩ := t
      have Hl : Hid (lp S RL s k = some (cl, il)) := hl
      clear hl
      go_enter Try.func11, Try.ntmps11
      go_wp2_with fail
      refine (place_some _ _ _ RL S _ _ _ _ hs Hcut.out h1).mono ?_
      rintro e w1 ⟨rfl, hb1⟩
      go_wp2_with fail
      refine (last_some _ b off (k + m) _ RL RC RB RO S _ _ _ _ (by omega) hA (hN.keep hb1) Hcut.out).mono ?_
      rintro e w2 ⟨rfl, rfl⟩
      go_wp2_with fail
      refine (place_some _ _ _ (fun x => RL (k + x)) (fun x => S (k + x)) _ _ _ _ hs Hr.out (h3.keep hb1)).mono ?_
      rintro e w3 ⟨rfl, hb3⟩
      go_wp2_with fail
      refine (place_some _ _ _ RL S _ _ _ _ hs Hl.out ((h2.keep hb1).keep hb3)).mono ?_
      rintro e w4 ⟨rfl, hb4⟩
      go_wp2_with fail
      go_ret
      exact ⟨rfl, below3 hb1 hb3 hb4⟩
    | none =>
      have Hl : Hid (lp S RL s k = none) := hl
      clear hl
      go_enter Try.func11, Try.ntmps11
      go_wp2_with fail
      refine (place_some _ _ _ RL S _ _ _ _ hs Hcut.out h1).mono ?_
      rintro e w1 ⟨rfl, hb1⟩
      go_wp2_with fail
      refine (last_some _ b off (k + m) _ RL RC RB RO S _ _ _ _ (by omega) hA (hN.keep hb1) Hcut.out).mono ?_
      rintro e w2 ⟨rfl, rfl⟩
      go_wp2_with fail
      refine (place_some _ _ _ (fun x => RL (k + x)) (fun x => S (k + x)) _ _ _ _ hs Hr.out (h3.keep hb1)).mono ?_
      rintro e w3 ⟨rfl, hb3⟩
      go_wp2_with fail
      refine (place_none _ _ _ RL S _ _ hs Hl.out ((h2.keep hb1).keep hb3)).mono ?_
      rintro e w4 ⟨rfl, hb4⟩
      go_wp2_with fail
      go_ret
      exact ⟨rfl, below3 hb1 hb3 hb4⟩
  | none =>
    have Hr : Hid (lp (fun x => S (k + x)) (fun x => RL (k + x)) s m = none) := hr
    rw [hr] at hcut
    clear hr
    cases hl : lp S RL s k with
    | some t =>
      obtain ⟨cl, il⟩ := t
      have Hl : Hid (lp S RL s k = some (cl, il)) := hl
      rw [hl] at hcut
      have Hcut : Hid (lp S RL s (k + m) = some (cl, il)) := hcut
      clear hl hcut
      go_enter Try.func11, Try.ntmps11
      go_wp2_with fail
      refine (place_some _ _ _ RL S _ _ _ _ hs Hcut.out h1).mono ?_
      rintro e w1 ⟨rfl, hb1⟩
      go_wp2_with fail
      refine (last_some _ b off (k + m) _ RL RC RB RO S _ _ _ _ (by omega) hA (hN.keep hb1) Hcut.out).mono ?_
      rintro e w2 ⟨rfl, rfl⟩
      go_wp2_with fail
      refine (place_none _ _ _ (fun x => RL (k + x)) (fun x => S (k + x)) _ _ hs Hr.out (h3.keep hb1)).mono ?_
      rintro e w3 ⟨rfl, hb3⟩
      go_wp2_with fail
      refine (place_some _ _ _ RL S _ _ _ _ hs Hl.out ((h2.keep hb1).keep hb3)).mono ?_
      rintro e w4 ⟨rfl, hb4⟩
      go_wp2_with fail
      go_ret
      exact ⟨rfl, below3 hb1 hb3 hb4⟩
    | none =>
      have Hl : Hid (lp S RL s k = none) := hl
      rw [hl] at hcut
      have Hcut : Hid (lp S RL s (k + m) = none) := hcut
      clear hl hcut
      go_enter Try.func11, Try.ntmps11
      go_wp2_with fail
      refine (place_none _ _ _ RL S _ _ hs Hcut.out h1).mono ?_
      rintro e w1 ⟨rfl, hb1⟩
      go_wp2_with fail
      refine (last_none _ b off (k + m) _ RL RC RB RO S _ _ (by omega) hA (hN.keep hb1) Hcut.out).mono ?_
      rintro e w2 ⟨rfl, rfl⟩
      go_wp2_with fail
      refine (place_none _ _ _ (fun x => RL (k + x)) (fun x => S (k + x)) _ _ hs Hr.out (h3.keep hb1)).mono ?_
      rintro e w3 ⟨rfl, hb3⟩
      go_wp2_with fail
      refine (place_none _ _ _ RL S _ _ hs Hl.out ((h2.keep hb1).keep hb3)).mono ?_
      rintro e w4 ⟨rfl, hb4⟩
      go_wp2_with fail
      go_ret
      exact ⟨rfl, below3 hb1 hb3 hb4⟩

end Go.Proofs.Qxb6615834a
