/-
  zzLeadsBack walked.
-/
import Derived.Test.Qxb6615834aJoin
namespace Go.Proofs.Qxb6615834a
open Go.RowKit Go.Maps

theorem CastsTo.below {w w' : World} {g n c : Nat} {RL : Nat → Nat} {S : Nat → Nat → ByteArray} (h : CastsTo w g n c RL S) (hb : Below w.heap.size w w') : CastsTo w' g n c RL S :=
  h.keep (fun k _ h2 => hb.block k h2)

set_option maxHeartbeats 1000000 in
theorem leadsBack_any (A : Option Addr) (b off n cap r g : Nat) (RL RC RB RO : Nat → Nat) (S : Nat → Nat → ByteArray) (s : ByteArray) (w : World)
    (hn : n ≤ 32768) (hL : ∀ i, i < n → 0 < RL i ∧ RL i ≤ 65536) (hA : 0 < n → A = some ⟨b, off, none⟩) (hN : NamesAt w b off n RL RC RB RO S) (hs : s.size ≤ maxLen)
    (h1 : RouterAt w r g n (mapA S RL n)) (hC : CastsTo w g n n RL S) :
    Calls Try.prog 15 #[.pointer (some ⟨r, 0, none⟩), .slice (some ⟨g, 0, none⟩) n n, .slice A n cap, .string s] w fun e w' => e = .returned (.bool true) ∧ Below w.heap.size w w' := by
  cases hp : lp S RL s n with
  | none =>
    have Hp : Hid (lp S RL s n = none) := hp
    clear hp
    go_enter Try.func15, Try.ntmps15
    go_wp2_with fail
    refine (place_none _ _ _ RL S _ _ hs Hp.out h1).mono ?_
    rintro e w1 ⟨rfl, hb1⟩
    go_wp2_with fail
    refine (last_none _ b off n _ RL RC RB RO S _ _ (by omega) hA (hN.keep hb1) Hp.out).mono ?_
    rintro e w2 ⟨rfl, rfl⟩
    go_wp2_with fail
    go_ret
    exact ⟨rfl, hb1⟩
  | some t =>
    obtain ⟨c, i⟩ := t
    obtain ⟨hc, hi, hsame⟩ := lp_spec hp
    have Hp : Hid (lp S RL s n = some (c, i)) := hp
    simp only at hc hi hsame
    have hbs : ((S c i).toList == s.toList) = true := bytes_same.2 hsame
    clear hp hsame
    obtain rfl := hA (by omega)
    clear hA
    have hRc := (hL c hc).2
    have hcz : (c : Int) < (n : Int) := by omega
    have hiz : (i : Int) < (RL c : Int) := by omega
    go_enter Try.func15, Try.ntmps15
    go_wp2_with fail
    refine (place_some _ _ _ RL S _ _ _ _ hs Hp.out h1).mono ?_
    rintro e w1 ⟨rfl, hb1⟩
    go_wp2_with fail
    refine (last_some _ b off n _ RL RC RB RO S _ _ _ _ (by omega) (fun _ => rfl) (hN.keep hb1) Hp.out).mono ?_
    rintro e w2 ⟨rfl, rfl⟩
    obtain ⟨ra, g0, _⟩ := (hN.keep hb1).row c hc
    obtain ⟨f, hf, hfc⟩ := hC.below hb1
    obtain ⟨p, hfp, hcast⟩ := hfc c hc
    have g1 := hf.cell hc
    rw [hfp] at g1
    obtain ⟨q, hq, hqn⟩ := hcast.inst hi
    go_wp2_with fail
    refine (castInstance_any p i q _ hq (by omega)).mono ?_
    rintro e w3 ⟨rfl, rfl⟩
    go_wp2_with fail
    refine (instanceName_any q _ _ hqn).mono ?_
    rintro e w4 ⟨rfl, rfl⟩
    go_wp2_with fail
    go_ret
    exact ⟨rfl, hb1⟩

end Go.Proofs.Qxb6615834a
