/-
  The law FnACRouterPlaceLeadsBackToItsInstance: the walk.
-/
import Derived.Test.Qxb6615834aLawJ
import Derived.Lib.Builder
namespace Go.Proofs.Qxb6615834a
open Go.RowKit Go.Maps

/-- what the last two loops lean on -/
structure BackAt (w : World) (b off n r g : Nat) (RL RC RB RO : Nat → Nat) (S : Nat → Nat → ByteArray) : Prop where
  names : NamesAt w b off n RL RC RB RO S
  all : RouterAt w r g n (mapA S RL n)
  casts : CastsTo w g n n RL S
theorem BackAt.keep {w w' : World} {b off n r g : Nat} {RL RC RB RO : Nat → Nat} {S : Nat → Nat → ByteArray} (h : BackAt w b off n r g RL RC RB RO S) (hb : Below w.heap.size w w') : BackAt w' b off n r g RL RC RB RO S :=
  ⟨h.names.keep hb, h.all.keep hb, h.casts.below hb⟩

theorem same_ptr34 (a : Addr) (w : World) : (binOp .neq 34 (.pointer (some a)) (.pointer (some a))).run Try.prog w = .ok (.bool false) w := by
  cases h : Try.prog.info? 64 with
  | none => exact absurd (by rw [h]; rfl : (Try.prog.info? 64).isSome = false) (by rw [show (Try.prog.info? 64).isSome = true by kernel_rfl]; simp)
  | some j => exact Lib.run_neq_ptr_same w a Try.underlying34 h

set_option maxHeartbeats 1000000 in
theorem lawL_any (A : Option Addr) (b off n cap : Nat) (RL RC RB RO : Nat → Nat) (S : Nat → Nat → ByteArray) (s : ByteArray) (w : World)
    (hn : n ≤ 9223372036854775807) (hA : 0 < n → A = some ⟨b, off, none⟩) (hN : NamesAt w b off n RL RC RB RO S) (hs : s.size ≤ maxLen) (hlen : ∀ i, i < n → ∀ j, j < RL i → (S i j).size ≤ maxLen) :
    Calls Try.prog 4 #[.slice A n cap, .string s] w fun e w' => e = .returned (.bool true) ∧ Below w.heap.size w w' := by
  go_enter Try.func4, Try.ntmps4
  go_wp2_with fail
  refine (bytes12_any A b off n cap RL RC RB RO S s w hn hA hN).mono ?_
  rintro e w0 ⟨⟨bv, rfl, _⟩, rfl⟩
  cases bv
  · go_wp2_with fail
    go_ret
    exact ⟨rfl, Below.refl _ _⟩
  go_wp2_with fail
  refine (namesFit_any A b off n cap RL RC RB RO S s _ hn hA hN).mono ?_
  rintro e w1 ⟨⟨bv, rfl, hfit⟩, rfl⟩
  cases bv
  · go_wp2_with fail
    go_ret
    exact ⟨rfl, Below.refl _ _⟩
  obtain ⟨hn15, hsum⟩ := hfit rfl
  clear hfit
  go_wp2_with fail
  go_loopg [28] n (fun g i wr => ∃ c : Nat, c ≤ n ∧ g = n - c ∧ w1 = wr ∧ i = .int .i64 c ∧ ∀ x, x < c → 0 < RL x)
  case atStart => exact ⟨0, Nat.zero_le _, rfl, rfl, rfl, fun x hx => absurd hx (Nat.not_lt_zero _)⟩
  case round =>
    obtain ⟨c, hc, rfl, rfl, rfl, hpos⟩ := hrel
    by_cases hlt : c < n
    · obtain rfl := hA (by omega)
      clear hA
      have hrz : (c : Int) < (n : Int) := by omega
      obtain ⟨ra, g0, hra⟩ := hN.row c hlt
      clear hra
      by_cases hr0 : 0 < RL c
      · have hz : ((RL c : Int) == 0) = false := by simp; omega
        go_wp2_with fail
        go_roundg (n - (c + 1))
        case measure => go_light; omega
        case rel => go_light; exact ⟨c + 1, by omega, rfl, rfl, by go_num, fun x hx => by rcases Nat.lt_succ_iff_lt_or_eq.1 hx with h | h; exact hpos x h; subst h; exact hr0⟩
      · have hz : ((RL c : Int) == 0) = true := by simp; omega
        go_wp2_with fail
        go_ret
        exact ⟨rfl, Below.refl _ _⟩
    · have e : c = n := by omega
      subst e
      have hL : ∀ i, i < c → 0 < RL i ∧ RL i ≤ 65536 := fun i hi => ⟨hpos i hi, Nat.le_trans (rl_le_sum RL hi) hsum⟩
      clear hpos hlt hc
      go_wp2_with fail
      refine (buildCasts_any A b off c cap RL RC RB RO S _ hn15 hL hA hN).mono ?_
      rintro e w2 ⟨rfl, hb2, hC2⟩
      go_wp2_with fail
      refine (zznewACRouter_any _ c RL S _ hn15 hL hsum hlen hC2).mono ?_
      rintro e w3 ⟨rfl, hb3, hR1⟩
      have hK : BackAt w3 b off c _ _ RL RC RB RO S := ⟨(hN.keep hb2).keep hb3, hR1, hC2.below hb3⟩
      have hB3 : Below w1.heap.size w1 w3 := below2 hb2 hb3
      clear hR1 hC2 hb2 hb3 hN
      go_wp2_with fail
      refine (routerCasts_any _ _ _ _ _ hK.all).mono ?_
      rintro e w4 ⟨rfl, rfl⟩
      go_wp2_with fail
      go_loopg [53] c (fun g i wx => ∃ d : Nat, d ≤ c ∧ g = c - d ∧ i = .int .i64 d ∧ Below w1.heap.size w1 wx ∧ BackAt wx b off c _ _ RL RC RB RO S)
      case atStart => exact ⟨0, Nat.zero_le _, rfl, rfl, hB3, hK⟩
      case round =>
        clear hK hB3
        obtain ⟨d, hd, rfl, rfl, hB3, hK⟩ := hrel
        by_cases hdl : d < c
        · have hdz : (d : Int) < (c : Int) := by omega
          obtain ⟨f, hf, hfc⟩ := hK.casts
          obtain ⟨p, hfp, _⟩ := hfc d hdl
          have g1 := hf.cell hdl
          rw [hfp] at g1
          clear hf hfc hfp
          have hpp := same_ptr34 ⟨p, 0, none⟩
          go_wp2_with fail
          go_quiet (fail)
          go_wp2_with fail
          go_roundg (c - (d + 1))
          case measure => go_light; omega
          case rel => go_light; exact ⟨d + 1, by omega, rfl, by go_num, below_drewN hB3 _, hK.keep (below_drewN (Below.refl _ _) _)⟩
        · go_wp2_with fail
          refine (placeCount_dc _ _ c RL S _ hK.all).mono ?_
          rintro e w5 ⟨rfl, rfl⟩
          go_wp2_with fail
          refine (distinct_any A b off c _ RL RC RB RO S _ hn15 hsum hA hK.names).mono ?_
          rintro e w6 ⟨rfl, rfl⟩
          go_wp2_with fail
          refine (sharedSizes_any _ _ _ _ _ hK.all).mono ?_
          rintro e w7 ⟨rfl, hb7⟩
          have hK := hK.keep hb7
          have hB3 := below2 hB3 hb7
          go_wp2_with fail
          refine (leadsBack_any A b off c _ _ _ RL RC RB RO S s _ hn15 hL hA hK.names hs hK.all hK.casts).mono ?_
          rintro e w8 ⟨rfl, hb8⟩
          have hK := hK.keep hb8
          have hB3 := below2 hB3 hb8
          clear hb7 hb8
          go_wp2_with fail
          go_loopg [110] c (fun g i wx => ∃ d : Nat, d ≤ c ∧ g = c - d ∧ i = .int .i64 d ∧ Below w1.heap.size w1 wx ∧ BackAt wx b off c _ _ RL RC RB RO S)
          case atStart => exact ⟨0, Nat.zero_le _, rfl, rfl, hB3, hK⟩
          case round =>
            clear hK hB3
            obtain ⟨d, hd, rfl, rfl, hBx, hJx⟩ := hrel
            by_cases hdl : d < c
            · obtain rfl := hA (by omega)
              clear hA
              have hdz : (d : Int) < (c : Int) := by omega
              obtain ⟨ra, g0, hra⟩ := hJx.names.row d hdl
              obtain rfl := hra (hL d hdl).1
              clear hra
              have hRd := (hL d hdl).2
              go_wp2_with fail
              clear g0
              go_loopg [118] (RL d) (fun g i wy => ∃ j : Nat, j ≤ RL d ∧ g = RL d - j ∧ i = .int .i64 j ∧ Below w1.heap.size w1 wy ∧ BackAt wy b off c _ _ RL RC RB RO S)
              case atStart => exact ⟨0, Nat.zero_le _, rfl, rfl, hBx, hJx⟩
              case round =>
                clear hJx hBx
                obtain ⟨j, hj, rfl, rfl, hBx, hJx⟩ := hrel
                by_cases hjl : j < RL d
                · have hjz : (j : Int) < (RL d : Int) := by omega
                  obtain ⟨ra, g0, hra⟩ := hJx.names.row d hdl
                  obtain rfl := hra (hL d hdl).1
                  clear hra
                  have g1 := hJx.names.name d hdl j hjl
                  go_wp2_with fail
                  refine (leadsBack_any _ b off c _ _ _ RL RC RB RO S _ _ hn15 hL (fun _ => rfl) hJx.names (hlen d hdl j hjl) hJx.all hJx.casts).mono ?_
                  rintro e w11 ⟨rfl, hb11⟩
                  go_wp2_with fail
                  go_roundg (RL d - (j + 1))
                  case measure => go_light; omega
                  case rel => go_light; exact ⟨j + 1, by omega, rfl, by go_num, below2 hBx hb11, hJx.keep hb11⟩
                · go_wp2_with fail
                  go_roundg (c - (d + 1))
                  case measure => go_light; omega
                  case rel => go_light; exact ⟨d + 1, by omega, rfl, by go_num, hBx, hJx⟩
            · go_wp2_with fail
              go_ret
              exact ⟨rfl, hBx⟩
end Go.Proofs.Qxb6615834a
