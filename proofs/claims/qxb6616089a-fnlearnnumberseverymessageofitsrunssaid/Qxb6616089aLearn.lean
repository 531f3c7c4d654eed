/-
  (*ordering).learn walked.
-/
import Derived.Test.Qxb6616089aBuildO
namespace Go.Proofs.Qxb6616089a
open Go.RowKit Go.Maps

/-! ### the messages of the runs, in a row -/
def csum (C : Nat → Nat) : Nat → Nat
  | 0 => 0
  | j + 1 => csum C j + C j
theorem csum_mono (C : Nat → Nat) {a b : Nat} (h : a ≤ b) : csum C a ≤ csum C b := by
  induction h with
  | refl => exact Nat.le_refl _
  | step _ ih => simp only [csum]; omega
def msgsI (s q : Int) : Nat → List (Int × Int)
  | 0 => []
  | i + 1 => msgsI s q i ++ [(s, IntKind.u64.wrap (q + (i : Int)))]
def msgs (RS RQ : Nat → Int) (C : Nat → Nat) : Nat → List (Int × Int)
  | 0 => []
  | j + 1 => msgs RS RQ C j ++ msgsI (RS j) (RQ j) (C j)
theorem msgsI_length (s q : Int) : ∀ i, (msgsI s q i).length = i
  | 0 => rfl
  | i + 1 => by simp [msgsI, msgsI_length s q i]
theorem msgs_length (RS RQ : Nat → Int) (C : Nat → Nat) : ∀ j, (msgs RS RQ C j).length = csum C j
  | 0 => rfl
  | j + 1 => by simp [msgs, csum, msgs_length RS RQ C j, msgsI_length]
theorem msgsI_at (s q : Int) : ∀ {m i : Nat}, i < m → (msgsI s q m)[i]? = some (s, IntKind.u64.wrap (q + (i : Int)))
  | m + 1, i, h => by
    unfold msgsI
    rcases Nat.lt_succ_iff_lt_or_eq.1 h with h1 | h1
    · rw [List.getElem?_append_left (by rw [msgsI_length]; exact h1)]; exact msgsI_at s q h1
    · subst h1; rw [List.getElem?_append_right (by rw [msgsI_length]; exact Nat.le_refl _), msgsI_length]; simp
theorem msgs_at (RS RQ : Nat → Int) (C : Nat → Nat) : ∀ {n j i : Nat}, j < n → i < C j → (msgs RS RQ C n)[csum C j + i]? = some (RS j, IntKind.u64.wrap (RQ j + (i : Int)))
  | n + 1, j, i, hj, hi => by
    unfold msgs
    rcases Nat.lt_succ_iff_lt_or_eq.1 hj with h1 | h1
    · have := csum_mono C (show j + 1 ≤ n from h1)
      have e : csum C (j + 1) = csum C j + C j := rfl
      rw [List.getElem?_append_left (by rw [msgs_length]; omega)]
      exact msgs_at RS RQ C h1 hi
    · subst h1
      rw [List.getElem?_append_right (by rw [msgs_length]; omega), msgs_length, Nat.add_sub_cancel_left]
      exact msgsI_at _ _ hi
def msgS (RS RQ : Nat → Int) (C : Nat → Nat) (n k : Nat) : Int := ((msgs RS RQ C n).getD k (0, 0)).1
def msgQ (RS RQ : Nat → Int) (C : Nat → Nat) (n k : Nat) : Int := ((msgs RS RQ C n).getD k (0, 0)).2
theorem msgS_at (RS RQ : Nat → Int) (C : Nat → Nat) {n j i : Nat} (hj : j < n) (hi : i < C j) : msgS RS RQ C n (csum C j + i) = RS j := by
  simp [msgS, List.getD, msgs_at RS RQ C hj hi]
theorem msgQ_at (RS RQ : Nat → Int) (C : Nat → Nat) {n j i : Nat} (hj : j < n) (hi : i < C j) : msgQ RS RQ C n (csum C j + i) = IntKind.u64.wrap (RQ j + (i : Int)) := by
  simp [msgQ, List.getD, msgs_at RS RQ C hj hi]

/-- the k-th number -/
def numK (first : Int) (k : Nat) : Int := (first + k) % 18446744073709551616
theorem numK_wrap (first : Int) (k : Nat) : IntKind.u64.wrap (numK first k + 1) = numK first (k + 1) := by
  simp only [IntKind.wrap, IntKind.signed, IntKind.bits, numK]
  simp
  omega
theorem numK_add (first : Int) (k : Nat) : IntKind.u64.wrap (first + (k : Int)) = numK first k := by
  simp only [IntKind.wrap, IntKind.signed, IntKind.bits, numK]
  simp
theorem numK_zero {first : Int} (h : (Lit.int .u64 first).wf = true) : numK first 0 = first := by
  simp [Lit.wf, IntKind.min, IntKind.max, IntKind.signed, IntKind.bits] at h
  unfold numK
  omega
theorem numK_wf (first : Int) (k : Nat) : (Lit.int .u64 (numK first k)).wf = true := by
  simp [Lit.wf, IntKind.min, IntKind.max, IntKind.signed, IntKind.bits, numK]
  omega
theorem numK_inj {first : Int} {i j : Nat} (hi : i ≤ 65536) (hj : j ≤ 65536) (h : numK first i = numK first j) : i = j := by
  unfold numK at h
  omega

/-- the store of 'passed' -/
theorem OrdAt.pass {w : World} {r B : Nat} {nx ps : Int} {k : Nat} {D : DataW Unit} (h : OrdAt w r B nx ps k D) (v : Int) : OrdAt (w.setCell ⟨r, 3, none⟩ (.int .u64 v)) r B nx v k D := by
  refine ⟨?_, h.own.setCell h.ne _, h.ne⟩
  simp [World.setCell, Array.getElem?_modify, h.blk, ordObj]
theorem turn_setCell {w : World} {r B o : Nat} (v : Value) : Turn w (w.setCell ⟨r, o, none⟩ v) r B :=
  ⟨rfl, rfl, rfl, by simp, fun k _ h _ => Deep.blk_setCell_other _ _ _ _ h⟩
theorem turn_drewN {w : World} {r B : Nat} (n : Nat) : Turn w (w.drewN n) r B := ⟨rfl, rfl, rfl, Nat.le_refl _, fun _ _ _ _ => rfl⟩
theorem turn_alloc {w : World} {r B : Nat} (o : Obj) : Turn w (w.alloc o) r B := ⟨rfl, rfl, rfl, by simp, fun _ h _ _ => Deep.blk_alloc_lt _ _ _ h⟩
theorem OrdAt.alloc {w : World} {r B : Nat} {nx ps : Int} {k : Nat} {D : DataW Unit} (h : OrdAt w r B nx ps k D) (o : Obj) : OrdAt (w.alloc o) r B nx ps k D :=
  h.keep ((Below.refl _ _).alloc (Nat.le_refl _) _)
theorem OrdAt.drewN {w : World} {r B : Nat} {nx ps : Int} {k : Nat} {D : DataW Unit} (h : OrdAt w r B nx ps k D) (n : Nat) : OrdAt (w.drewN n) r B nx ps k D := ⟨h.blk, h.own, h.ne⟩
theorem OrdAt.lt {w : World} {r B : Nat} {nx ps : Int} {k : Nat} {D : DataW Unit} (h : OrdAt w r B nx ps k D) : r < w.heap.size ∧ B < w.heap.size := ⟨(Array.getElem?_eq_some_iff.1 h.blk).1, h.own.lt⟩

def passTo (frm ps fin : Int) : Int := if frm ≤ ps then (if fin > ps then fin else ps) else ps

set_option maxHeartbeats 1000000 in
theorem learn_any (r B : Nat) (nx ps first frm : Int) (k0 : Nat) (D : DataW Unit) (rb n : Nat) (RS RQ : Nat → Int) (C : Nat → Nat) (PA : Option Addr) (pn pc : Nat) (w : World)
    (hn : n ≤ 65536) (hk0 : k0 ≤ 65536) (htot : csum C n ≤ 65536) (hfw : (Lit.int .u64 first).wf = true) (hrr : rb ≠ r) (hrB : rb ≠ B)
    (hO : OrdAt w r B nx ps k0 D) (hT : TripAt w rb 0 n (fun j => .int .i64 (RS j)) (fun j => .int .u64 (RQ j)) (fun j => .int .u64 (C j))) :
    Calls Try.prog 25 #[.pointer (some ⟨r, 0, none⟩), .agg #[.int .u64 first, .int .u64 frm, .slice (some ⟨rb, 0, none⟩) n n, .slice PA pn pc]] w fun e w' =>
      e = .returned (.int .u64 (numK first (csum C n))) ∧ Turn w w' r B ∧ OrdAt w' r B nx (passTo frm ps (numK first (csum C n))) (k0 + csum C n) (lm D (numK first) (msgS RS RQ C n) (msgQ RS RQ C n) nx (csum C n)) := by
  have hlt := hO.lt
  go_enter Try.func25, Try.ntmps25
  go_wp2
  have ht0 : Turn w (w.alloc (.cells #[.int .u64 first, .int .u64 frm, .slice (some ⟨rb, 0, none⟩) n n, .slice PA pn pc] 69)) r B := turn_alloc _
  have hO0 := hO.alloc (.cells #[.int .u64 first, .int .u64 frm, .slice (some ⟨rb, 0, none⟩) n n, .slice PA pn pc] 69)
  have hc0 : (w.alloc (.cells #[.int .u64 first, .int .u64 frm, .slice (some ⟨rb, 0, none⟩) n n, .slice PA pn pc] 69)).cell? ⟨w.heap.size, 1, none⟩ = some (.int .u64 frm) := by simp
  have hrb : ∀ j, j < n → rb < w.heap.size := fun j hj => World.block_lt_of_cell? _ _ (hT.x j hj)
  go_loopg [5, 14] n (fun g x5 x wr => ∃ j : Nat, j ≤ n ∧ g = n - j ∧ x = .int .i64 j ∧ x5 = .int .u64 (numK first (csum C j)) ∧ Turn w wr r B ∧ wr.cell? ⟨w.heap.size, 1, none⟩ = some (.int .u64 frm) ∧ OrdAt wr r B nx ps (k0 + csum C j) (lm D (numK first) (msgS RS RQ C n) (msgQ RS RQ C n) nx (csum C j)))
  case atStart => exact ⟨0, Nat.zero_le _, rfl, rfl, by rw [show csum C 0 = 0 from rfl, numK_zero hfw], ht0, hc0, hO0⟩
  case round =>
    clear ht0 hO0 hc0 hO
    obtain ⟨j, hj, rfl, rfl, rfl, ht, hc, hO⟩ := hrel
    by_cases hjn : j < n
    · have hz : (j : Int) < (n : Int) := by omega
      have e0 : wr.cell? ⟨rb, j * 3, none⟩ = some (.int .i64 (RS j)) := ht.cell hrr hrB (by simpa using hT.x j hjn)
      have e1 : wr.cell? ⟨rb, j * 3 + 1, none⟩ = some (.int .u64 (RQ j)) := ht.cell hrr hrB (by simpa using hT.y j hjn)
      have e2 : wr.cell? ⟨rb, j * 3 + 2, none⟩ = some (.int .u64 (C j)) := ht.cell hrr hrB (by simpa using hT.z j hjn)
      have hsz := ht.size
      have hNw : w.heap.size < wr.heap.size := World.block_lt_of_cell? _ _ hc
      have hcj : csum C (j + 1) ≤ csum C n := csum_mono C hjn
      have hcj' : csum C j + C j ≤ 65536 := Nat.le_trans hcj htot
      clear hcj
      go_wp2
      have ht2 := ht.trans (turn_alloc (r := r) (B := B) (Obj.cells #[.int .i64 (RS j), .int .u64 (RQ j), .int .u64 (C j)] 71))
      have hO2 := hO.alloc (Obj.cells #[.int .i64 (RS j), .int .u64 (RQ j), .int .u64 (C j)] 71)
      have hc2 : (wr.alloc (Obj.cells #[.int .i64 (RS j), .int .u64 (RQ j), .int .u64 (C j)] 71)).cell? ⟨w.heap.size, 1, none⟩ = some (.int .u64 frm) := by rw [World.cell?_alloc_lt _ _ _ hNw]; exact hc
      have hr2 : (wr.alloc (Obj.cells #[.int .i64 (RS j), .int .u64 (RQ j), .int .u64 (C j)] 71)).cell? ⟨wr.heap.size, 0, none⟩ = some (.int .i64 (RS j)) := by simp
      have hr3 : (wr.alloc (Obj.cells #[.int .i64 (RS j), .int .u64 (RQ j), .int .u64 (C j)] 71)).cell? ⟨wr.heap.size, 1, none⟩ = some (.int .u64 (RQ j)) := by simp
      have hRr : wr.heap.size ≠ r := by have := hO.lt; omega
      have hRB : wr.heap.size ≠ B := by have := hO.lt; omega
      generalize wr.heap.size = R at *
      clear hO hc ht e0 e1 e2 hsz hNw
      go_loopg [5, 20] (C j) (fun g x5 x wx => ∃ i : Nat, i ≤ C j ∧ g = C j - i ∧ x = .int .u64 i ∧ x5 = .int .u64 (numK first (csum C j + i)) ∧ Turn w wx r B ∧ wx.cell? ⟨w.heap.size, 1, none⟩ = some (.int .u64 frm) ∧ wx.cell? ⟨R, 0, none⟩ = some (.int .i64 (RS j)) ∧ wx.cell? ⟨R, 1, none⟩ = some (.int .u64 (RQ j)) ∧ OrdAt wx r B nx ps (k0 + csum C j + i) (lm D (numK first) (msgS RS RQ C n) (msgQ RS RQ C n) nx (csum C j + i)))
      case atStart => exact ⟨0, Nat.zero_le _, rfl, rfl, rfl, ht2, hc2, hr2, hr3, hO2⟩
      case round =>
        clear ht2 hO2 hc2 hr2 hr3
        obtain ⟨i, hi, rfl, rfl, rfl, ht, hc, hr0, hr1, hO⟩ := hrel
        have hnc := hO.next_cell
        by_cases hic : i < C j
        · have hz2 : (i : Int) < (C j : Int) := by omega
          have Hlm : Hid (lm D (numK first) (msgS RS RQ C n) (msgQ RS RQ C n) nx (csum C j + (i + 1)) = if nx ≤ numK first (csum C j + i) then (lm D (numK first) (msgS RS RQ C n) (msgQ RS RQ C n) nx (csum C j + i)).put (keyL (numK first (csum C j + i))) (pairD (RS j) (IntKind.u64.wrap (RQ j + (i : Int)))) else lm D (numK first) (msgS RS RQ C n) (msgQ RS RQ C n) nx (csum C j + i)) := by
            show lm D (numK first) (msgS RS RQ C n) (msgQ RS RQ C n) nx ((csum C j + i) + 1) = _
            rw [lm, msgS_at RS RQ C hjn hic, msgQ_at RS RQ C hjn hic]
          have Hw : Hid (IntKind.u64.wrap (numK first (csum C j + i) + 1) = numK first (csum C j + (i + 1))) := numK_wrap _ _
          obtain ⟨kk, hkk⟩ : ∃ x, x = numK first (csum C j + i) := ⟨_, rfl⟩
          have hkw : (Lit.int .u64 kk).wf = true := by rw [hkk]; exact numK_wf _ _
          rw [← hkk] at Hlm Hw ⊢
          clear hkk
          by_cases hw : nx ≤ kk
          · have g2 := hO.map_cell
            obtain ⟨w1, hrun, hO1, ht1, _⟩ := hO.store (by unfold maxLen; omega) hkw (RS j) (IntKind.u64.wrap (RQ j + (i : Int)))
            have g3 := hO1.map_cell
            have g4 := ht1.cell hRr hRB hr0
            have g5 := ht1.cell hRr hRB hr1
            have g6 : w1.cell? ⟨w.heap.size, 1, none⟩ = some (.int .u64 frm) := ht1.cell (by omega) (by omega) hc
            have Ht : Hid (Turn w w1 r B) := ht.trans ht1
            clear ht1
            go_wp2_with fail
            go_region_held3 (fun w' => w'.cell? ⟨r, 2, none⟩ = some (.map (some B)) ∧ w'.cell? ⟨R, 0, none⟩ = some (.int .i64 (RS j)) ∧ w'.cell? ⟨R, 1, none⟩ = some (.int .u64 (RQ j))) (go_keep) (fail)
            all_goals go_wp2
            all_goals
              go_roundg (C j - (i + 1))
              case measure => go_light; omega
              case rel =>
                go_light
                refine ⟨i + 1, by omega, rfl, by go_num, by rw [Hw.out], Ht.out, g6, g4, g5, ?_⟩
                rw [Hlm.out, if_pos hw]
                exact hO1
          · go_wp2
            go_roundg (C j - (i + 1))
            case measure => go_light; omega
            case rel =>
              go_light
              refine ⟨i + 1, by omega, rfl, by go_num, by rw [Hw.out], ht, hc, hr0, hr1, ?_⟩
              rw [Hlm.out, if_neg (by omega)]
              exact ⟨hO.blk, hO.own.mono (by omega), hO.ne⟩
        · have e : C j = i := by omega
          go_wp2
          go_roundg (n - (j + 1))
          case measure => go_light; omega
          case rel =>
            go_light
            refine ⟨j + 1, by omega, rfl, by go_num, ?_, ht, hc, ?_⟩
            · rw [csum, e]
            · rw [csum, e, ← Nat.add_assoc]; exact hO
    · have e : n = j := by omega
      subst e
      clear hj hjn
      have hpc := hO.passed_cell
      have hfz : ∀ nq, (wr.drewN nq).frozen? ⟨r, 3, none⟩ = false := fun nq => by
        show wr.frozen? ⟨r, 3, none⟩ = false
        simp [World.frozen?, hO.blk, ordObj]
      obtain ⟨fin, hfin⟩ : ∃ x, x = numK first (csum C n) := ⟨_, rfl⟩
      rw [← hfin]
      have Hfin : Hid (fin = numK first (csum C n)) := hfin
      clear hfin
      by_cases hf : frm ≤ ps
      · by_cases hm : fin > ps
        · have Hps : Hid (passTo frm ps fin = fin) := by show passTo frm ps fin = fin; rw [passTo, if_pos hf, if_pos hm]
          go_wp2_with fail
          go_quiet (fail)
          go_wp2_with fail
          go_ret
          refine ⟨by rw [← Hfin.out]; rfl, ht.trans ((turn_drewN _).trans (turn_setCell _)), ?_⟩
          rw [← Hfin.out, Hps.out]
          exact (hO.drewN _).pass fin
        · have Hps : Hid (passTo frm ps fin = ps) := by show passTo frm ps fin = ps; rw [passTo, if_pos hf, if_neg hm]
          go_wp2_with fail
          go_quiet (fail)
          go_wp2_with fail
          go_ret
          refine ⟨by rw [← Hfin.out]; rfl, ht.trans ((turn_drewN _).trans (turn_setCell _)), ?_⟩
          rw [← Hfin.out, Hps.out]
          exact (hO.drewN _).pass ps
      · have Hps : Hid (passTo frm ps fin = ps) := by show passTo frm ps fin = ps; rw [passTo, if_neg hf]
        go_wp2_with fail
        go_quiet (fail)
        go_wp2_with fail
        go_ret
        refine ⟨by rw [← Hfin.out]; rfl, ht.trans (turn_drewN _), ?_⟩
        rw [← Hfin.out, Hps.out]
        exact hO.drewN _

end Go.Proofs.Qxb6616089a
