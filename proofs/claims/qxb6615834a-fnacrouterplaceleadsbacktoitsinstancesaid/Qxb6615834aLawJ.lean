/-
  The law FnACRouterJoinsAtAnyCut: the walk.
-/
import Derived.Test.Qxb6615834aBack
namespace Go.Proofs.Qxb6615834a
open Go.RowKit Go.Maps

theorem joined_n (A : Option Addr) (b off n k m cap ra ga rl gl rr gr : Nat) (RL RC RB RO : Nat → Nat) (S : Nat → Nat → ByteArray) (s : ByteArray) (w : World) (e : Hid (n = k + m))
    (hn : n ≤ 32768) (hA : 0 < n → A = some ⟨b, off, none⟩) (hN : NamesAt w b off n RL RC RB RO S) (hs : s.size ≤ maxLen)
    (h1 : RouterAt w ra ga n (mapA S RL n)) (h2 : RouterAt w rl gl k (mapA S RL k)) (h3 : RouterAt w rr gr m (mapA (fun x => S (k + x)) (fun x => RL (k + x)) m)) :
    Calls Try.prog 11 #[.pointer (some ⟨ra, 0, none⟩), .pointer (some ⟨rl, 0, none⟩), .pointer (some ⟨rr, 0, none⟩), .int .i64 k, .slice A n cap, .string s] w fun e w' => e = .returned (.bool true) ∧ Below w.heap.size w w' := by
  have e' := e.out
  subst e'
  exact joined_any A b off k m cap ra ga rl gl rr gr RL RC RB RO S s w hn hA hN hs h1 h2 h3

theorem placeCount_dc (r g n : Nat) (RL : Nat → Nat) (S : Nat → Nat → ByteArray) (w : World) (hR : RouterAt w r g n (mapA S RL n)) :
    Calls Try.prog 9 #[.pointer (some ⟨r, 0, none⟩)] w fun e w' => e = .returned (.int .i64 (dc S RL n n)) ∧ w' = w := by
  refine (placeCount_any r g n _ w hR).mono ?_
  rintro e w' ⟨rfl, rfl⟩
  exact ⟨by rw [size_mapA], rfl⟩

theorem NamesAt.prefix {w : World} {b off n k : Nat} {RL RC RB RO : Nat → Nat} {S : Nat → Nat → ByteArray} (h : NamesAt w b off n RL RC RB RO S) (hk : k ≤ n) : NamesAt w b off k RL RC RB RO S :=
  ⟨fun i hi => h.row i (by omega), fun i hi => h.name i (by omega), fun i hi => h.fit i (by omega)⟩
theorem NamesAt.suffix {w : World} {b off n k : Nat} {RL RC RB RO : Nat → Nat} {S : Nat → Nat → ByteArray} (h : NamesAt w b off n RL RC RB RO S) (hk : k ≤ n) :
    NamesAt w b (off + k) (n - k) (fun x => RL (k + x)) (fun x => RC (k + x)) (fun x => RB (k + x)) (fun x => RO (k + x)) (fun x => S (k + x)) :=
  ⟨fun i hi => by rw [Nat.add_assoc]; exact h.row (k + i) (by omega), fun i hi => h.name (k + i) (by omega), fun i hi => h.fit (k + i) (by omega)⟩
theorem rlSum_suffix (RL : Nat → Nat) (k : Nat) : ∀ m, rlSum (fun x => RL (k + x)) m + rlSum RL k = rlSum RL (k + m)
  | 0 => by simp [rlSum]
  | m + 1 => by have := rlSum_suffix RL k m; show rlSum (fun x => RL (k + x)) m + RL (k + m) + rlSum RL k = rlSum RL (k + m) + RL (k + m); omega
theorem rl_le_sum (RL : Nat → Nat) {i n : Nat} (h : i < n) : RL i ≤ rlSum RL n := by
  have := rlSum_mono RL (show i + 1 ≤ n from h)
  have e : rlSum RL (i + 1) = rlSum RL i + RL i := rfl
  omega

theorem shift_addr {A : Option Addr} {b off k c : Nat} (hA : 0 < c → A = some ⟨b, off, none⟩) (h : 0 < c - k) : A.map (fun x => x.add k) = some ⟨b, off + k, none⟩ := by
  rw [hA (by omega)]
  by_cases e : k = 0
  · subst e; rfl
  · simp [Addr.add, e]

/-- what the last two loops lean on -/
structure JoinAt (w : World) (b off n k m ra ga rl gl rr gr : Nat) (RL RC RB RO : Nat → Nat) (S : Nat → Nat → ByteArray) : Prop where
  names : NamesAt w b off n RL RC RB RO S
  all : RouterAt w ra ga n (mapA S RL n)
  left : RouterAt w rl gl k (mapA S RL k)
  right : RouterAt w rr gr m (mapA (fun x => S (k + x)) (fun x => RL (k + x)) m)
theorem JoinAt.keep {w w' : World} {b off n k m ra ga rl gl rr gr : Nat} {RL RC RB RO : Nat → Nat} {S : Nat → Nat → ByteArray} (h : JoinAt w b off n k m ra ga rl gl rr gr RL RC RB RO S) (hb : Below w.heap.size w w') : JoinAt w' b off n k m ra ga rl gl rr gr RL RC RB RO S :=
  ⟨h.names.keep hb, h.all.keep hb, h.left.keep hb, h.right.keep hb⟩

set_option maxHeartbeats 1000000 in
theorem lawJ_any (A : Option Addr) (b off n cap : Nat) (RL RC RB RO : Nat → Nat) (S : Nat → Nat → ByteArray) (kz : Int) (s : ByteArray) (w : World)
    (hn : n ≤ 9223372036854775807) (hcap : n ≤ cap) (hA : 0 < n → A = some ⟨b, off, none⟩) (hN : NamesAt w b off n RL RC RB RO S) (hs : s.size ≤ maxLen) (hlen : ∀ i, i < n → ∀ j, j < RL i → (S i j).size ≤ maxLen) :
    Calls Try.prog 3 #[.slice A n cap, .int .i64 kz, .string s] w fun e w' => e = .returned (.bool true) ∧ Below w.heap.size w w' := by
  go_enter Try.func3, Try.ntmps3
  go_wp2_with fail
  refine (bytes5_any A b off n cap RL RC RB RO S kz s w hn hA hN).mono ?_
  rintro e w0 ⟨⟨bv, rfl, _⟩, rfl⟩
  cases bv
  · go_wp2_with fail
    go_ret
    exact ⟨rfl, Below.refl _ _⟩
  go_wp2_with fail
  refine (namesFit_any A b off n cap RL RC RB RO S s _ hn hA hN).mono ?_
  rintro e w1 ⟨⟨bv, rfl, hfit⟩, rfl⟩
  cases bv
  · go_wp2_with fail
    go_ret
    exact ⟨rfl, Below.refl _ _⟩
  obtain ⟨hn15, hsum⟩ := hfit rfl
  clear hfit
  by_cases hk0 : kz < 0
  · go_wp2_with fail
    go_ret
    exact ⟨rfl, Below.refl _ _⟩
  by_cases hk1 : (n : Int) < kz
  · go_wp2_with fail
    go_ret
    exact ⟨rfl, Below.refl _ _⟩
  obtain ⟨k, rfl⟩ := Int.eq_ofNat_of_zero_le (show 0 ≤ kz by omega)
  have hkn : k ≤ n := by omega
  go_wp2_with fail
  go_loopg [32] n (fun g i wr => ∃ c : Nat, c ≤ n ∧ g = n - c ∧ w1 = wr ∧ i = .int .i64 c ∧ ∀ x, x < c → 0 < RL x)
  case atStart => exact ⟨0, Nat.zero_le _, rfl, rfl, rfl, fun x hx => absurd hx (Nat.not_lt_zero _)⟩
  case round =>
    obtain ⟨c, hc, rfl, rfl, rfl, hpos⟩ := hrel
    by_cases hlt : c < n
    · obtain rfl := hA (by omega)
      clear hA
      have hrz : (c : Int) < (n : Int) := by omega
      obtain ⟨ra, g0, hra⟩ := hN.row c hlt
      clear hra
      by_cases hr0 : 0 < RL c
      · have hz : ((RL c : Int) == 0) = false := by simp; omega
        go_wp2_with fail
        go_roundg (n - (c + 1))
        case measure => go_light; omega
        case rel => go_light; exact ⟨c + 1, by omega, rfl, rfl, by go_num, fun x hx => by rcases Nat.lt_succ_iff_lt_or_eq.1 hx with h | h; exact hpos x h; subst h; exact hr0⟩
      · have hz : ((RL c : Int) == 0) = true := by simp; omega
        go_wp2_with fail
        go_ret
        exact ⟨rfl, Below.refl _ _⟩
    · have e : c = n := by omega
      subst e
      have hL : ∀ i, i < c → 0 < RL i ∧ RL i ≤ 65536 := fun i hi => ⟨hpos i hi, Nat.le_trans (rl_le_sum RL hi) hsum⟩
      clear hpos hlt hc
      go_wp2_with fail
      refine (buildCasts_any A b off c cap RL RC RB RO S _ hn15 hL hA hN).mono ?_
      rintro e w2 ⟨rfl, hb2, hC2⟩
      go_wp2_with fail
      refine (zznewACRouter_any _ c RL S _ hn15 hL hsum hlen hC2).mono ?_
      rintro e w3 ⟨rfl, hb3, hR1⟩
      have hN3 := (hN.keep hb2).keep hb3
      go_wp2_with fail
      refine (buildCasts_any A b off k cap RL RC RB RO S _ (by omega) (fun i hi => hL i (by omega)) (fun h => hA (by omega)) (hN3.prefix hkn)).mono ?_
      rintro e w4 ⟨rfl, hb4, hC4⟩
      go_wp2_with fail
      refine (zznewACRouter_any _ k RL S _ (by omega) (fun i hi => hL i (by omega)) (Nat.le_trans (rlSum_mono RL hkn) hsum) (fun i hi => hlen i (by omega)) hC4).mono ?_
      rintro e w5 ⟨rfl, hb5, hR2⟩
      have hN5 := (hN3.keep hb4).keep hb5
      have hR1 := (hR1.keep hb4).keep hb5
      have hm : k + (c - k) = c := by omega
      have hsum' : rlSum (fun x => RL (k + x)) (c - k) ≤ 65536 := by have := rlSum_suffix RL k (c - k); rw [hm] at this; omega
      have Hm : Hid (c = k + (c - k)) := hm.symm
      clear hm
      obtain ⟨A2, hA2e, hA2⟩ : ∃ A2, A.map (fun x => x.add k) = A2 ∧ (0 < c - k → A2 = some ⟨b, off + k, none⟩) := ⟨_, rfl, fun h => shift_addr hA h⟩
      go_wp2_with fail
      all_goals
        clear hA2e
        first
          | refine (buildCasts_any _ b (off + k) (c - k) _ (fun x => RL (k + x)) (fun x => RC (k + x)) (fun x => RB (k + x)) (fun x => RO (k + x)) (fun x => S (k + x)) _ (by omega) (fun i hi => hL (k + i) (by omega)) (fun h => by omega) (hN5.suffix hkn)).mono ?_
          | refine (buildCasts_any _ b (off + k) (c - k) _ (fun x => RL (k + x)) (fun x => RC (k + x)) (fun x => RB (k + x)) (fun x => RO (k + x)) (fun x => S (k + x)) _ (by omega) (fun i hi => hL (k + i) (by omega)) hA2 (hN5.suffix hkn)).mono ?_
        rintro e w6 ⟨rfl, hb6, hC6⟩
        go_wp2_with fail
        refine (zznewACRouter_any _ (c - k) (fun x => RL (k + x)) (fun x => S (k + x)) _ (by omega) (fun i hi => hL (k + i) (by omega)) hsum' (fun i hi => hlen (k + i) (by omega)) hC6).mono ?_
        rintro e w7 ⟨rfl, hb7, hR3⟩
        have hJ : JoinAt w7 b off c k (c - k) _ _ _ _ _ _ RL RC RB RO S := ⟨(hN5.keep hb6).keep hb7, (hR1.keep hb6).keep hb7, (hR2.keep hb6).keep hb7, hR3⟩
        have hB7 : Below w1.heap.size w1 w7 := below2 (below3 hb2 hb3 hb4) (below3 hb5 hb6 hb7)
        clear hR1 hR2 hR3 hN hN3 hN5 hC2 hC4 hC6
        go_wp2_with fail
        refine (placeCount_dc _ _ c RL S _ hJ.all).mono ?_
        rintro e w8 ⟨rfl, rfl⟩
        go_wp2_with fail
        refine (distinct_any A b off c _ RL RC RB RO S _ hn15 hsum hA hJ.names).mono ?_
        rintro e w9 ⟨rfl, rfl⟩
        go_wp2_with fail
        refine (joined_n A b off c k (c - k) _ _ _ _ _ _ _ RL RC RB RO S s _ Hm hn15 hA hJ.names hs hJ.all hJ.left hJ.right).mono ?_
        rintro e w10 ⟨rfl, hb10⟩
        go_wp2_with fail
        have hJ2 := hJ.keep hb10
        have hB2 := below2 hB7 hb10
        clear hJ hB7 hb2 hb3 hb4 hb5 hb6 hb7 hb10
        go_loopg [80] c (fun g i wx => ∃ d : Nat, d ≤ c ∧ g = c - d ∧ i = .int .i64 d ∧ Below w1.heap.size w1 wx ∧ JoinAt wx b off c k (c - k) _ _ _ _ _ _ RL RC RB RO S)
        case atStart => exact ⟨0, Nat.zero_le _, rfl, rfl, hB2, hJ2⟩
        case round =>
          clear hJ2 hB2
          obtain ⟨d, hd, rfl, rfl, hBx, hJx⟩ := hrel
          by_cases hdl : d < c
          · obtain rfl := hA (by omega)
            clear hA
            have hdz : (d : Int) < (c : Int) := by omega
            obtain ⟨ra, g0, hra⟩ := hJx.names.row d hdl
            obtain rfl := hra (hL d hdl).1
            clear hra
            have hRd := (hL d hdl).2
            go_wp2_with fail
            clear g0
            go_loopg [88] (RL d) (fun g i wy => ∃ j : Nat, j ≤ RL d ∧ g = RL d - j ∧ i = .int .i64 j ∧ Below w1.heap.size w1 wy ∧ JoinAt wy b off c k (c - k) _ _ _ _ _ _ RL RC RB RO S)
            case atStart => exact ⟨0, Nat.zero_le _, rfl, rfl, hBx, hJx⟩
            case round =>
              clear hJx hBx
              obtain ⟨j, hj, rfl, rfl, hBx, hJx⟩ := hrel
              by_cases hjl : j < RL d
              · have hjz : (j : Int) < (RL d : Int) := by omega
                obtain ⟨ra, g0, hra⟩ := hJx.names.row d hdl
                obtain rfl := hra (hL d hdl).1
                clear hra
                have g1 := hJx.names.name d hdl j hjl
                go_wp2_with fail
                refine (joined_n _ b off c k (c - k) _ _ _ _ _ _ _ RL RC RB RO S _ _ Hm hn15 (fun _ => rfl) hJx.names (hlen d hdl j hjl) hJx.all hJx.left hJx.right).mono ?_
                rintro e w11 ⟨rfl, hb11⟩
                go_wp2_with fail
                go_roundg (RL d - (j + 1))
                case measure => go_light; omega
                case rel => go_light; exact ⟨j + 1, by omega, rfl, by go_num, below2 hBx hb11, hJx.keep hb11⟩
              · go_wp2_with fail
                go_roundg (c - (d + 1))
                case measure => go_light; omega
                case rel => go_light; exact ⟨d + 1, by omega, rfl, by go_num, hBx, hJx⟩
          · go_wp2_with fail
            go_ret
            exact ⟨rfl, hBx⟩
end Go.Proofs.Qxb6615834a
