/-
  The law FnLearnNumbersEveryMessageOfItsRuns: the walk.
-/
import Derived.Test.Qxb6616089aApp
namespace Go.Proofs.Qxb6616089a
open Go.RowKit Go.Maps

theorem TripAt.turn {w w' : World} {b off n r B : Nat} {X Y Z : Nat → Value} (h : TripAt w b off n X Y Z) (ht : Turn w w' r B) (hr : b ≠ r) (hB : b ≠ B) : TripAt w' b off n X Y Z :=
  ⟨fun i hi => ht.cell hr hB (h.x i hi), fun i hi => ht.cell hr hB (h.y i hi), fun i hi => ht.cell hr hB (h.z i hi)⟩

def wantS (RS RQ : Nat → Int) (C : Nat → Nat) (n k : Nat) : Value := .int .i64 (msgS RS RQ C n k)
def wantQ (RS RQ : Nat → Int) (C : Nat → Nat) (n k : Nat) : Value := .int .u64 (msgQ RS RQ C n k)
theorem wantS_at (RS RQ : Nat → Int) (C : Nat → Nat) {n j i : Nat} (hj : j < n) (hi : i < C j) : wantS RS RQ C n (csum C j + i) = .int .i64 (RS j) := by rw [wantS, msgS_at RS RQ C hj hi]
theorem wantQ_at (RS RQ : Nat → Int) (C : Nat → Nat) {n j i : Nat} (hj : j < n) (hi : i < C j) : wantQ RS RQ C n (csum C j + i) = .int .u64 (IntKind.u64.wrap (RQ j + (i : Int))) := by rw [wantQ, msgQ_at RS RQ C hj hi]

theorem two_start (w : World) (T : Nat) (hT : T ≤ 65536) (F G : Nat → Value) : Two w ((w.alloc (.cells (madeCells #[.int .i64 0] T) 3)).alloc (.cells (madeCells #[.int .u64 0] T) 24)) w.heap.size w.heap.size T (w.heap.size + 1) T 0 F G := by
  refine ⟨((Below.refl _ _).alloc (Nat.le_refl _) _).alloc (by simp) _, by simp; omega, by omega, (World.ownsRow_made w _ T (Nat.le_refl _) (by unfold maxLen; omega) (by rw [size_madeCells, Nat.mul_one])).alloc _, ?_⟩
  have := World.ownsRow_made (e := 24) (size := 1) (base := w.heap.size) (w.alloc (.cells (madeCells #[.int .i64 0] T) 3)) (madeCells #[.int .u64 0] T) T (by simp) (by unfold maxLen; omega) (by rw [size_madeCells, Nat.mul_one])
  rw [Deep.nblk_alloc] at this
  exact this

theorem pass_cases (frm ps fin : Int) : (frm ≤ ps ∧ ps < fin ∧ Hid (passTo frm ps fin = fin)) ∨ (frm ≤ ps ∧ ¬ ps < fin ∧ Hid (passTo frm ps fin = ps)) ∨ (¬ frm ≤ ps ∧ Hid (passTo frm ps fin = ps)) := by
  by_cases hf : frm ≤ ps
  · by_cases hm : ps < fin
    · exact Or.inl ⟨hf, hm, by show passTo frm ps fin = fin; rw [passTo, if_pos hf, if_pos hm]⟩
    · exact Or.inr (Or.inl ⟨hf, hm, by show passTo frm ps fin = ps; rw [passTo, if_pos hf, if_neg hm]⟩)
  · exact Or.inr (Or.inr ⟨hf, by show passTo frm ps fin = ps; rw [passTo, if_neg hf]⟩)

theorem inW_cond {first nx x : Int} {T : Nat} (hT : T ≤ 65536) (hx : (Lit.int .u64 x).wf = true) : inW (numK first) nx x T = (decide (IntKind.u64.wrap (x - first) < (T : Int)) && decide (nx ≤ x)) := by
  simp [Lit.wf, IntKind.min, IntKind.max, IntKind.signed, IntKind.bits] at hx
  refine Bool.eq_iff_iff.2 ?_
  rw [inW_iff, Bool.and_eq_true, decide_eq_true_eq, decide_eq_true_eq]
  have hw : IntKind.u64.wrap (x - first) = (x - first) % 18446744073709551616 := by
    simp only [IntKind.wrap, IntKind.signed, IntKind.bits]
    simp
  rw [hw]
  constructor
  · rintro ⟨k, hk, h1, h2⟩
    unfold numK at h1 h2
    refine ⟨?_, by omega⟩
    omega
  · rintro ⟨h1, h2⟩
    refine ⟨((x - first) % 18446744073709551616).toNat, by omega, ?_, ?_⟩
    · unfold numK; omega
    · unfold numK; omega
theorem isLast_true {K : Nat → Int} {n i : Nat} (hi : i < n) (h : ∀ j, i < j → j < n → K j ≠ K i) : isLast K n i = true := by
  unfold isLast; exact decide_eq_true ((lastOf_iff hi).2 h)
theorem isLast_false {K : Nat → Int} {n i j : Nat} (hi : i < n) (hj : i < j) (hjn : j < n) (h : K j = K i) : isLast K n i = false := by
  unfold isLast; exact decide_eq_false (fun h2 => (lastOf_iff hi).1 h2 j hj hjn h)

/-- a number that stands as it stood -/
theorem learn_kept {K S Q MS MQ : Nat → Int} {first nx : Int} {n T i : Nat} (h1 : inW (numK first) nx (K i) T = false) (h2 : isLast K n i = true) :
    Maps.has (lm (d0 K S Q n) (numK first) MS MQ nx T) (keyL (K i)) = true ∧ (lm (d0 K S Q n) (numK first) MS MQ nx T).atKey (keyL (K i)) (pairD 0 0) = pairD (S i) (Q i) := by
  have hl : lastOf K n (K i) = some i := of_decide_eq_true h2
  have hno : ∀ k, k < T → nx ≤ numK first k → numK first k ≠ K i := fun k hk hw e => by
    have : inW (numK first) nx (K i) T = true := inW_iff.2 ⟨k, hk, hw, e⟩
    rw [h1] at this; cases this
  obtain ⟨a1, a2⟩ := lm_other (D := d0 K S Q n) (MS := MS) (MQ := MQ) hno
  exact ⟨by rw [a1, has_d0, hl]; rfl, by rw [a2]; exact at_d0 K S Q (K i) hl⟩

/-- what the last loops lean on -/
structure FinAt (w : World) (r B : Nat) (nx pv : Int) (kk : Nat) (D : DataW Unit) (ga h T : Nat) (F G : Nat → Value) (b1 o1 nN : Nat) (K S Q : Nat → Int) : Prop where
  ord : OrdAt w r B nx pv kk D
  s : ∀ k, k < T → w.cell? ⟨ga, k, none⟩ = some (F k)
  q : ∀ k, k < T → w.cell? ⟨h, k, none⟩ = some (G k)
  ent : TripAt w b1 o1 nN (fun i => .int .u64 (K i)) (fun i => .int .i64 (S i)) (fun i => .int .u64 (Q i))
theorem FinAt.keep {w w' : World} {r B : Nat} {nx pv : Int} {kk : Nat} {D : DataW Unit} {ga h T : Nat} {F G : Nat → Value} {b1 o1 nN : Nat} {K S Q : Nat → Int} (f : FinAt w r B nx pv kk D ga h T F G b1 o1 nN K S Q) (hb : Below w.heap.size w w') : FinAt w' r B nx pv kk D ga h T F G b1 o1 nN K S Q :=
  ⟨f.ord.keep hb, fun k hk => by rw [hb.cell (p := ⟨ga, k, none⟩) (World.block_lt_of_cell? _ _ (f.s k hk))]; exact f.s k hk, fun k hk => by rw [hb.cell (p := ⟨h, k, none⟩) (World.block_lt_of_cell? _ _ (f.q k hk))]; exact f.q k hk, f.ent.keep hb⟩
theorem finAt_start {w0 w w' : World} {base ga c h d T : Nat} {F G : Nat → Value} {b1 o1 nN : Nat} {K S Q : Nat → Int} {r B : Nat} {nx ps : Int} {kk : Nat} {D : DataW Unit} (t : Two w0 w base ga c h d T F G)
    (ht : TripAt w0 b1 o1 nN (fun i => .int .u64 (K i)) (fun i => .int .i64 (S i)) (fun i => .int .u64 (Q i))) (ho : OrdAt w' r B nx ps kk D) (hb : Below w.heap.size w w') (hbase : base = w0.heap.size := by rfl) : FinAt w' r B nx ps kk D ga h T F G b1 o1 nN K S Q := by
  subst hbase
  exact ⟨ho, fun k hk => by rw [hb.cell (p := ⟨ga, k, none⟩) (t.first.lt ga rfl).2]; exact t.cellF hk, fun k hk => by rw [hb.cell (p := ⟨h, k, none⟩) (t.second.lt h rfl).2]; exact t.cellG hk, (ht.keep t.below).keep hb⟩
theorem FinAt.learned {w w' : World} {r B : Nat} {nx pv pv' : Int} {kk kk' : Nat} {D D' : DataW Unit} {ga h T : Nat} {F G : Nat → Value} {b1 o1 nN : Nat} {K S Q : Nat → Int} (f : FinAt w r B nx pv kk D ga h T F G b1 o1 nN K S Q) (ht : Turn w w' r B) (ho : OrdAt w' r B nx pv' kk' D')
    (h1 : ga ≠ r) (h2 : ga ≠ B) (h3 : h ≠ r) (h4 : h ≠ B) (h5 : ∀ i, i < nN → b1 ≠ r ∧ b1 ≠ B) : FinAt w' r B nx pv' kk' D' ga h T F G b1 o1 nN K S Q :=
  ⟨ho, fun k hk => ht.cell h1 h2 (f.s k hk), fun k hk => ht.cell h3 h4 (f.q k hk), ⟨fun i hi => ht.cell (h5 i hi).1 (h5 i hi).2 (f.ent.x i hi), fun i hi => ht.cell (h5 i hi).1 (h5 i hi).2 (f.ent.y i hi), fun i hi => ht.cell (h5 i hi).1 (h5 i hi).2 (f.ent.z i hi)⟩⟩

set_option maxRecDepth 100000 in
set_option maxHeartbeats 4000000 in
theorem lawL_any (nx ps first frm : Int) (A1 : Option Addr) (b1 o1 nN c1 : Nat) (K S Q : Nat → Int) (A2 : Option Addr) (b2 o2 nR c2 : Nat) (RS RQ : Nat → Int) (C : Nat → Nat) (A3 : Option Addr) (nP c3 : Nat) (w : World)
    (hfw : (Lit.int .u64 first).wf = true) (hwf : ∀ i, i < nN → (Lit.int .u64 (K i)).wf = true)
    (hA1 : 0 < nN → A1 = some ⟨b1, o1, none⟩) (hT1 : TripAt w b1 o1 nN (fun i => .int .u64 (K i)) (fun i => .int .i64 (S i)) (fun i => .int .u64 (Q i)))
    (hA2 : 0 < nR → A2 = some ⟨b2, o2, none⟩) (hT2 : TripAt w b2 o2 nR (fun j => .int .i64 (RS j)) (fun j => .int .u64 (RQ j)) (fun j => .int .u64 (C j))) :
    Calls Try.prog 5 #[.int .u64 nx, .int .u64 ps, .slice A1 nN c1, .int .u64 first, .int .u64 frm, .slice A2 nR c2, .slice A3 nP c3] w fun e w' => e = .returned (.bool true) ∧ Below w.heap.size w w' := by
  go_enter Try.func5, Try.ntmps5
  go_wp2_with fail
  refine (bytes12_any A1 A2 A3 nN nR nP c1 c2 c3 nx ps first frm w).mono ?_
  rintro e w0 ⟨⟨bv, rfl⟩, rfl⟩
  cases bv
  · go_wp2_with fail
    go_ret
    exact ⟨rfl, Below.refl _ _⟩
  by_cases g1 : (4096 : Int) < (nN : Int)
  · go_wp2_with fail
    go_ret
    exact ⟨rfl, Below.refl _ _⟩
  by_cases g2 : (16384 : Int) < (nR : Int)
  · go_wp2_with fail
    go_ret
    exact ⟨rfl, Below.refl _ _⟩
  by_cases g3 : (16384 : Int) < (nP : Int)
  · go_wp2_with fail
    go_ret
    exact ⟨rfl, Below.refl _ _⟩
  have g4 : ¬ (1048576 : Int) < 24 * (nN : Int) + 24 * (nR : Int) + 8 * (nP : Int) := by omega
  go_wp2_with fail
  go_loopg [15, 16] nR (fun g x15 x wr => ∃ j : Nat, j ≤ nR ∧ g = nR - j ∧ x = .int .i64 j ∧ x15 = .int .u64 (csum C j : Nat) ∧ csum C j ≤ 65536 ∧ w0 = wr)
  case atStart => exact ⟨0, Nat.zero_le _, rfl, rfl, rfl, Nat.zero_le _, rfl⟩
  case round =>
    obtain ⟨j, hj, rfl, rfl, rfl, hcs, rfl⟩ := hrel
    by_cases hjn : j < nR
    · obtain rfl := hA2 (by omega)
      clear hA2
      have hz : (j : Int) < (nR : Int) := by omega
      have cz := hT2.z j hjn
      by_cases q1 : (65536 : Int) < (C j : Int)
      · go_wp2_with fail
        go_ret
        exact ⟨rfl, Below.refl _ _⟩
      by_cases q2 : (65536 : Int) < (csum C j : Int) + (C j : Int)
      · go_wp2_with fail
        go_ret
        exact ⟨rfl, Below.refl _ _⟩
      go_wp2_with fail
      go_roundg (nR - (j + 1))
      case measure => go_light; omega
      case rel => go_light; exact ⟨j + 1, by omega, rfl, by go_num, by go_num, by simp only [csum]; omega, rfl⟩
    · have e : nR = j := by omega
      subst e
      clear hj hjn
      have hmk1 := run_make_cap 39 3 (.int .i64 0) Try.underlying39 Try.info3 rfl (csum C nR) hcs
      have hmk2 := run_make_cap 35 24 (.int .u64 0) Try.underlying35 Try.info24 rfl (csum C nR) hcs
      go_wp2_with fail
      clear hmk1 hmk2
      have hTw0 := two_start w0 (csum C nR) hcs (wantS RS RQ C nR) (wantQ RS RQ C nR)
      go_loopg [17, 18, 19] nR (fun g v17 v18 x wr => ∃ (j ga c h d : Nat), j ≤ nR ∧ g = nR - j ∧ x = .int .i64 j ∧ v17 = .slice (some ⟨ga, 0, none⟩) (csum C j) c ∧ v18 = .slice (some ⟨h, 0, none⟩) (csum C j) d ∧ Two w0 wr w0.heap.size ga c h d (csum C j) (wantS RS RQ C nR) (wantQ RS RQ C nR))
      case atStart => exact ⟨0, _, _, _, _, Nat.zero_le _, rfl, rfl, rfl, rfl, hTw0⟩
      case round =>
        clear hTw0
        obtain ⟨j, ga, c, h, d, hj, rfl, rfl, rfl, rfl, hTw⟩ := hrel
        by_cases hjn : j < nR
        · obtain rfl := hA2 (by omega)
          clear hA2
          have hz : (j : Int) < (nR : Int) := by omega
          have hcj : csum C (j + 1) ≤ csum C nR := csum_mono C hjn
          have hcj' : csum C j + C j ≤ 65536 := Nat.le_trans hcj hcs
          clear hcj
          go_wp2_with fail
          go_loopg [17, 18, 20] (C j) (fun g v17 v18 x wx => ∃ (i ga c h d : Nat), i ≤ C j ∧ g = C j - i ∧ x = .int .u64 i ∧ v17 = .slice (some ⟨ga, 0, none⟩) (csum C j + i) c ∧ v18 = .slice (some ⟨h, 0, none⟩) (csum C j + i) d ∧ Two w0 wx w0.heap.size ga c h d (csum C j + i) (wantS RS RQ C nR) (wantQ RS RQ C nR))
          case atStart => exact ⟨0, ga, c, h, d, Nat.zero_le _, rfl, rfl, rfl, rfl, hTw⟩
          case round =>
            clear hTw
            obtain ⟨i, ga, c, h, d, hi, rfl, rfl, rfl, rfl, hTw⟩ := hrel
            have hTx := hT2.keep hTw.below
            have c0 := hTx.x j hjn
            have c1 := hTx.y j hjn
            have c2 := hTx.z j hjn
            clear hTx
            by_cases hic : i < C j
            · have hz2 : (i : Int) < (C j : Int) := by omega
              have HS : Hid (wantS RS RQ C nR (csum C j + i) = .int .i64 (RS j)) := wantS_at RS RQ C hjn hic
              have HQ : Hid (wantQ RS RQ C nR (csum C j + i) = .int .u64 (IntKind.u64.wrap (RQ j + (i : Int)))) := wantQ_at RS RQ C hjn hic
              go_wp2_with (first
                | (at_builtin; refine wpList_append_one _ rfl _ _ 39 3 (.int .i64 0) rfl Try.underlying39 Try.info3 rfl w0.heap.size ga (csum C j + i) c _ rfl (hTw.first.alloc _) wr.heap.size (.int .i64 (RS j)) rfl rfl (heap_alloc_new wr _) (by omega) (by have := hTw.size; simp; omega) ?_; intro g' c' w1 hown1 hgrow1 hat1; have hMid : TwoMid w0 w1 w0.heap.size g' c' h d (csum C j + i) (wantS RS RQ C nR) (wantQ RS RQ C nR) := hTw.mid (by rw [HS.out]; exact hown1) hgrow1 hat1; have e1 := (hT2.keep hMid.below).y j hjn; clear hown1 hgrow1 hat1)
                | (at_builtin; refine wpList_append_one _ rfl _ _ 35 24 (.int .u64 0) rfl Try.underlying35 Try.info24 rfl w0.heap.size h (csum C j + i) d _ rfl (hMid.second.alloc _) w1.heap.size (.int .u64 (IntKind.u64.wrap (RQ j + (i : Int)))) rfl rfl (heap_alloc_new w1 _) (by omega) (by have := hMid.size; simp; omega) ?_; intro h' d' w2 hown2 hgrow2 hat2))
              have hEnd := hMid.done (by rw [HQ.out]; exact hown2) hgrow2 hat2
              go_roundg (C j - (i + 1))
              case measure => go_light; omega
              case rel => go_light; exact ⟨i + 1, g', c', h', d', by omega, rfl, by go_num, rfl, rfl, hEnd⟩
            · have e : C j = i := by omega
              go_wp2_with fail
              go_roundg (nR - (j + 1))
              case measure => go_light; omega
              case rel =>
                go_light
                have e2 : csum C (j + 1) = csum C j + i := by rw [csum, e]
                exact ⟨j + 1, ga, c, h, d, by omega, rfl, by go_num, by rw [e2], by rw [e2], by rw [e2]; exact hTw⟩
        · have e : nR = j := by omega
          subst e
          clear hj hjn
          obtain ⟨T, hT⟩ : ∃ x, csum C nR = x := ⟨_, rfl⟩
          obtain ⟨fin, hfin⟩ : ∃ x, IntKind.u64.wrap (first + (T : Int)) = x := ⟨_, rfl⟩
          have Hfin : Hid (numK first T = fin) := by rw [← hfin]; exact (numK_add first T).symm
          have HT : Hid (csum C nR = T) := hT
          rw [hT] at hTw hcs ⊢
          clear hT
          rcases pass_cases frm ps fin with ⟨hf, hm, Hpv⟩ | ⟨hf, hm, Hpv⟩ | ⟨hf, Hpv⟩
          all_goals
            go_wp2_with fail
            refine (buildOrdering_any nx ps A1 b1 o1 nN c1 K S Q _ (by omega) hwf hA1 (hT1.keep hTw.below)).mono ?_
            rintro e w3 ⟨r, B, rfl, hrr, hrB, hb3, hO3⟩
            have hgl := hTw.first.lt ga rfl
            have hhl := hTw.second.lt h rfl
            have hf3 := (finAt_start hTw hT1 hO3 hb3)
            have hT23 := (hT2.keep hTw.below).keep hb3
            have hB3 : Below w0.heap.size w0 w3 := below2 hTw.below hb3
            have hwr := hTw.below.size
            go_wp2_with fail
            refine (learnRuns_any r B nx ps first frm nN (d0 K S Q nN) A2 b2 o2 nR c2 RS RQ C A3 nP c3 _ (by omega) (by omega) (by rw [HT.out]; exact hcs) hfw hA2 hO3 hT23).mono ?_
            rintro e w4 ⟨rfl, ht4, hO4⟩
            rw [HT.out] at hO4
            rw [HT.out]
            rw [Hfin.out] at hO4
            rw [Hfin.out]
            rw [Hpv.out] at hO4
            have hf4 := hf3.learned ht4 hO4 (by omega) (by omega) (by omega) (by omega) (fun i hi => by have := World.block_lt_of_cell? _ _ (hT1.x i hi); simp only at this; omega)
            have hB4 : Below w0.heap.size w0 w4 := Turn.below hB3 ht4 (by have := hb3.size; omega) (by omega) (by omega)
            clear hO3 hO4 ht4 hf3 hT23 hB3 hb3 hT2 hTw hT1
            go_wp2_with fail
            refine (ordNext_any r B nx _ _ _ _ hf4.ord).mono ?_
            rintro e w5 ⟨rfl, rfl⟩
            go_wp2_with fail
            refine (ordPassed_any r B nx _ _ _ _ hf4.ord).mono ?_
            rintro e w6 ⟨rfl, rfl⟩
            go_wp2_with fail
            have hinj : ∀ i j, i < T → j < T → numK first i = numK first j → i = j := fun i j hi hj => numK_inj (by omega) (by omega)
            have Hinj : Hid (∀ i j, i < T → j < T → numK first i = numK first j → i = j) := hinj
            clear hinj hf Hfin hfin Hpv HT hrr hrB hgl hhl hwr
            go_loopg [25, 26] T (fun g x25 x wx => ∃ k : Nat, k ≤ T ∧ g = T - k ∧ x = .int .u64 k ∧ x25 = .int .i64 (cnt (fun i => decide (nx ≤ numK first i)) k : Nat) ∧ Below w0.heap.size w0 wx ∧ FinAt wx r B nx _ _ _ ga h T (wantS RS RQ C nR) (wantQ RS RQ C nR) b1 o1 nN K S Q)
            case atStart => exact ⟨0, Nat.zero_le _, rfl, rfl, rfl, hB4, hf4⟩
            case round =>
              clear hB4 hf4
              obtain ⟨k, hk, rfl, rfl, rfl, hB4, hf4⟩ := hrel
              have hcl := cnt_le (fun i => decide (nx ≤ numK first i)) k
              by_cases hkT : k < T
              · have hz : (k : Int) < (T : Int) := by omega
                have hnk := numK_add first k
                have hwk := numK_wf first k
                have s1 : _ = some (Value.int .i64 (msgS RS RQ C nR k)) := hf4.s k hkT
                have s2 : _ = some (Value.int .u64 (msgQ RS RQ C nR k)) := hf4.q k hkT
                have Hc : Hid (cnt (fun i => decide (nx ≤ numK first i)) (k + 1) = cnt (fun i => decide (nx ≤ numK first i)) k + (decide (nx ≤ numK first k)).toNat) := cnt_succ _ _
                have HW : Hid (nx ≤ numK first k → Maps.has (lm (d0 K S Q nN) (numK first) (msgS RS RQ C nR) (msgQ RS RQ C nR) nx T) (keyL (numK first k)) = true ∧ (lm (d0 K S Q nN) (numK first) (msgS RS RQ C nR) (msgQ RS RQ C nR) nx T).atKey (keyL (numK first k)) (pairD 0 0) = pairD (msgS RS RQ C nR k) (msgQ RS RQ C nR k)) := fun h => lm_written (d0_tidy K S Q nN) hkT h Hinj.out
                generalize numK first k = kk at *
                generalize cnt (fun i => decide (nx ≤ numK first i)) k = cc at *
                by_cases hw : nx ≤ kk
                · go_wp2_with fail
                  refine (ordNumber_any r B nx _ _ _ kk (msgS RS RQ C nR k) (msgQ RS RQ C nR k) true _ hf4.ord hwk (HW.out hw).2 (HW.out hw).1).mono ?_
                  rintro e w7 ⟨rfl, hb7⟩
                  have s1 : _ = some (Value.int .i64 (msgS RS RQ C nR k)) := (hf4.keep hb7).s k hkT
                  have s2 : _ = some (Value.int .u64 (msgQ RS RQ C nR k)) := (hf4.keep hb7).q k hkT
                  go_wp2_with fail
                  go_roundg (T - (k + 1))
                  case measure => go_light; omega
                  case rel => go_light; exact ⟨k + 1, by omega, rfl, by go_num, by rw [Hc.out, decide_eq_true hw]; go_num, below2 hB4 hb7, hf4.keep hb7⟩
                · go_wp2_with fail
                  go_roundg (T - (k + 1))
                  case measure => go_light; omega
                  case rel => go_light; exact ⟨k + 1, by omega, rfl, by go_num, by rw [Hc.out, decide_eq_false (by omega)]; rfl, hB4, hf4⟩
              · have e : T = k := by omega
                subst e
                clear hk hkT
                have HD : Hid (Maps.size (lm (d0 K S Q nN) (numK first) (msgS RS RQ C nR) (msgQ RS RQ C nR) nx T) + cnt (fun i => inW (numK first) nx (K i) T && isLast K nN i) nN = cnt (isLast K nN) nN + cnt (fun k => decide (nx ≤ numK first k)) T) := size_lm K S Q nN (numK first) (msgS RS RQ C nR) (msgQ RS RQ C nR) nx T Hinj.out
                obtain ⟨D, hD⟩ : ∃ D, D = lm (d0 K S Q nN) (numK first) (msgS RS RQ C nR) (msgQ RS RQ C nR) nx T := ⟨_, rfl⟩
                have HE : Hid (D = lm (d0 K S Q nN) (numK first) (msgS RS RQ C nR) (msgQ RS RQ C nR) nx T) := hD
                rw [← hD] at hf4 HD
                clear hD
                have HCW : Hid (cnt (fun i => decide (nx ≤ numK first i)) T ≤ 65536) := by
                  show cnt (fun i => decide (nx ≤ numK first i)) T ≤ 65536
                  omega
                generalize cnt (fun i => decide (nx ≤ numK first i)) T = cw at *
                go_wp2_with fail
                go_loopg [31, 32, 33] nN (fun g x31 x32 x wx => ∃ i : Nat, i ≤ nN ∧ g = nN - i ∧ x = .int .i64 i ∧ x31 = .int .i64 (cnt (isLast K nN) i : Nat) ∧ x32 = .int .i64 (cnt (fun i => inW (numK first) nx (K i) T && isLast K nN i) i : Nat) ∧ Below w0.heap.size w0 wx ∧ FinAt wx r B nx _ _ _ ga h T (wantS RS RQ C nR) (wantQ RS RQ C nR) b1 o1 nN K S Q)
                case atStart => exact ⟨0, Nat.zero_le _, rfl, rfl, rfl, rfl, hB4, hf4⟩
                case round =>
                  clear hB4 hf4
                  obtain ⟨i, hi, rfl, rfl, rfl, rfl, hB4, hf4⟩ := hrel
                  have hl1 := cnt_le (isLast K nN) i
                  have hl2 := cnt_le (fun i => inW (numK first) nx (K i) T && isLast K nN i) i
                  by_cases hin : i < nN
                  · obtain rfl := hA1 (by omega)
                    clear hA1
                    have hz : (i : Int) < (nN : Int) := by omega
                    have k1 := hf4.ent.x i hin
                    have k2 := hf4.ent.y i hin
                    have k3 := hf4.ent.z i hin
                    have hwi := hwf i hin
                    have Hc1 : Hid (cnt (isLast K nN) (i + 1) = cnt (isLast K nN) i + (isLast K nN i).toNat) := cnt_succ _ _
                    have Hc2 : Hid (cnt (fun i => inW (numK first) nx (K i) T && isLast K nN i) (i + 1) = cnt (fun i => inW (numK first) nx (K i) T && isLast K nN i) i + (inW (numK first) nx (K i) T && isLast K nN i).toNat) := cnt_succ _ _
                    have Hin : Hid (inW (numK first) nx (K i) T = (decide (IntKind.u64.wrap (K i - first) < (T : Int)) && decide (nx ≤ K i))) := inW_cond hcs hwi
                    generalize cnt (isLast K nN) i = cd at *
                    generalize cnt (fun i => inW (numK first) nx (K i) T && isLast K nN i) i = co at *
                    go_wp2_with fail
                    go_loopg [35, 36] (nN - (i + 1)) (fun g x35 x36 wx => ∃ j : Nat, i + 1 ≤ j ∧ j ≤ nN ∧ g = nN - j ∧ x36 = .int .i64 j ∧ x35 = .bool true ∧ Hid (∀ j', i < j' → j' < j → K j' ≠ K i) ∧ wr = wx)
                    case atStart => exact ⟨i + 1, Nat.le_refl _, by omega, rfl, by go_num, rfl, fun j' h1 h2 => by omega, rfl⟩
                    case round =>
                      obtain ⟨j, hj1, hj2, rfl, rfl, rfl, Hno, rfl⟩ := hrel
                      by_cases hjn : j < nN
                      · have hz2 : (j : Int) < (nN : Int) := by omega
                        have kj := hf4.ent.x j hjn
                        cases hkj : (K j == K i)
                        · go_wp2_with fail
                          go_roundg (nN - (j + 1))
                          case measure => go_light; omega
                          case rel =>
                            go_light
                            refine ⟨j + 1, by omega, by omega, rfl, by go_num, rfl, fun j' h1 h2 => ?_, rfl⟩
                            rcases Nat.lt_succ_iff_lt_or_eq.1 h2 with h3 | h3
                            · exact Hno.out j' h1 h3
                            · subst h3; exact beq_eq_false_iff_ne.1 hkj
                        · have hlast : isLast K nN i = false := isLast_false hin (by omega) hjn (eq_of_beq hkj)
                          have Hlast : Hid (isLast K nN i = false) := hlast
                          clear hlast
                          go_wp2_with fail
                          go_roundg (nN - (i + 1))
                          case measure => go_light; omega
                          case rel => go_light; exact ⟨i + 1, by omega, rfl, by go_num, by rw [Hc1.out, Hlast.out]; rfl, by rw [Hc2.out, Hlast.out, Bool.and_false]; rfl, hB4, hf4⟩
                      · have Hlast : Hid (isLast K nN i = true) := isLast_true hin (fun j' h1 h2 => Hno.out j' h1 (by omega))
                        clear Hno
                        by_cases q1 : IntKind.u64.wrap (K i - first) < (T : Int)
                        · by_cases q2 : nx ≤ K i
                          · have Hov : Hid (inW (numK first) nx (K i) T = true) := by
                              show inW (numK first) nx (K i) T = true
                              rw [Hin.out, decide_eq_true q1, decide_eq_true q2]; rfl
                            clear Hin
                            go_wp2_with fail
                            go_roundg (nN - (i + 1))
                            case measure => go_light; omega
                            case rel => go_light; exact ⟨i + 1, by omega, rfl, by go_num, by rw [Hc1.out, Hlast.out]; go_num, by rw [Hc2.out, Hlast.out, Hov.out]; go_num, hB4, hf4⟩
                          · have Hov : Hid (inW (numK first) nx (K i) T = false) := by
                              show inW (numK first) nx (K i) T = false
                              rw [Hin.out, decide_eq_false q2, Bool.and_false]
                            have HL := learn_kept (K := K) (S := S) (Q := Q) (MS := msgS RS RQ C nR) (MQ := msgQ RS RQ C nR) Hov.out Hlast.out
                            rw [← HE.out] at HL
                            have HL2 : Hid (Maps.has D (keyL (K i)) = true ∧ D.atKey (keyL (K i)) (pairD 0 0) = pairD (S i) (Q i)) := HL
                            clear Hin HL
                            go_wp2_with fail
                            refine (ordNumber_any r B nx _ _ _ (K i) (S i) (Q i) true _ hf4.ord hwi HL2.out.2 HL2.out.1).mono ?_
                            rintro e w9 ⟨rfl, hb9⟩
                            have m2 := (hf4.keep hb9).ent.y i hin
                            have m3 := (hf4.keep hb9).ent.z i hin
                            go_wp2_with fail
                            go_roundg (nN - (i + 1))
                            case measure => go_light; omega
                            case rel => go_light; exact ⟨i + 1, by omega, rfl, by go_num, by rw [Hc1.out, Hlast.out]; go_num, by rw [Hc2.out, Hlast.out, Hov.out]; rfl, below2 hB4 hb9, hf4.keep hb9⟩
                        · have Hov : Hid (inW (numK first) nx (K i) T = false) := by
                            show inW (numK first) nx (K i) T = false
                            rw [Hin.out, decide_eq_false q1, Bool.false_and]
                          have HL := learn_kept (K := K) (S := S) (Q := Q) (MS := msgS RS RQ C nR) (MQ := msgQ RS RQ C nR) Hov.out Hlast.out
                          rw [← HE.out] at HL
                          have HL2 : Hid (Maps.has D (keyL (K i)) = true ∧ D.atKey (keyL (K i)) (pairD 0 0) = pairD (S i) (Q i)) := HL
                          clear Hin HL
                          go_wp2_with fail
                          refine (ordNumber_any r B nx _ _ _ (K i) (S i) (Q i) true _ hf4.ord hwi HL2.out.2 HL2.out.1).mono ?_
                          rintro e w9 ⟨rfl, hb9⟩
                          have m2 := (hf4.keep hb9).ent.y i hin
                          have m3 := (hf4.keep hb9).ent.z i hin
                          go_wp2_with fail
                          go_roundg (nN - (i + 1))
                          case measure => go_light; omega
                          case rel => go_light; exact ⟨i + 1, by omega, rfl, by go_num, by rw [Hc1.out, Hlast.out]; go_num, by rw [Hc2.out, Hlast.out, Hov.out]; rfl, below2 hB4 hb9, hf4.keep hb9⟩
                  · have e : nN = i := by omega
                    subst e
                    have hcw : cw ≤ 65536 := by have := HCW.out; omega
                    have hfin1 : ((Maps.size D : Int) == (cnt (isLast K nN) nN : Int) + (cw : Int) - (cnt (fun i => inW (numK first) nx (K i) T && isLast K nN i) nN : Int)) = true := by
                      have := HD.out
                      simp only [beq_iff_eq]
                      omega
                    go_wp2_with fail
                    refine (ordCount_any r B nx _ _ _ _ hf4.ord).mono ?_
                    rintro e w10 ⟨rfl, rfl⟩
                    go_wp2_with fail
                    go_ret
                    exact ⟨rfl, hB4⟩

end Go.Proofs.Qxb6616089a
