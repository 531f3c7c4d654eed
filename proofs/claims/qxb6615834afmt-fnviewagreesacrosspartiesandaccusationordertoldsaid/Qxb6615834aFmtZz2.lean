/-
  zzPrune: the walk.
-/
import Derived.Test.Qxb6615834aFmtZz1
import Derived.Test.Qxb6615834aFmtPg2
namespace Go.Proofs.Qxb6615834aFmt
open Go.RowKit Go.Deep

theorem Tryf.info4 : (Tryf.prog.info? 4).map (fun i => (i.zero, i.size, i.bytes)) = some (some (.bool false), 1, 1) := by kernel_rfl

/-- The accusations, as Go has them. -/
def accI (acc : List (Nat × Nat)) : List (Int × Int) := acc.map fun p => ((p.1 : Int) + 1, (p.2 : Int) + 1)
theorem accI_length (acc : List (Nat × Nat)) : (accI acc).length = acc.length := by simp [accI]
theorem accI_get (acc : List (Nat × Nat)) {i : Nat} (hi : i < acc.length) : (accI acc)[i]?.getD (0, 0) = (((acc[i]?.getD (0, 0)).1 : Int) + 1, ((acc[i]?.getD (0, 0)).2 : Int) + 1) := by
  simp [accI, hi]

/-- The model's two matrices. -/
structure ZAt (w : World) (H n : Nat) (N P : Nat → Nat → Bool) (W : World) : Prop where
  below : Below H w W
  adj : AdjAt W H n N
  pr : PrAt W (H + 1) n P
  size : W.heap.size = H + 2

section
variable {w W : World} {H n x y q : Nat} {N P : Nat → Nat → Bool}
theorem ZAt.putA (h : ZAt w H n N P W) (hy : y < n) (hxy : x ≠ y) (hq : (x + 1) * (n + 1) = q) (v : Bool) : ZAt w H n (putN N x y v) P (W.setCell ⟨H, q + (y + 1), none⟩ (.bool v)) :=
  ⟨h.below.setCell (p := ⟨H, q + (y + 1), none⟩) (Nat.le_refl _) _, h.adj.put hy hxy hq v, World.rowIs.setOther h.pr (by simp) _, by simpa using h.size⟩
theorem ZAt.putP (h : ZAt w H n N P W) (hy : y < n) (hq : (x + 1) * (n + 1) = q) (v : Bool) : ZAt w H n N (putN P x y v) (W.setCell ⟨H + 1, q + (y + 1), none⟩ (.bool v)) :=
  ⟨h.below.setCell (p := ⟨H + 1, q + (y + 1), none⟩) (by simp) _, World.rowIs.setOther h.adj (by simp) _, h.pr.put hy hq v, by simpa using h.size⟩
theorem ZAt.congr {N' : Nat → Nat → Bool} (h : ZAt w H n N P W) (e : ∀ x y, x < n → y < n → x ≠ y → N x y = N' x y) : ZAt w H n N' P W := ⟨h.below, h.adj.congr e, h.pr, h.size⟩
end

/-- The rows below a are laid, and of row a the parties below b. -/
def visN (a b : Nat) : Nat → Nat → Bool := fun x y => decide (x < a ∨ (x = a ∧ y < b))

theorem visN_put {a b x y : Nat} : putN (visN a b) a b true x y = visN a (b + 1) x y := by
  rw [putN_at]
  unfold visN
  by_cases e : x = a ∧ y = b
  · rw [if_pos e]
    have : x < a ∨ (x = a ∧ y < b + 1) := by omega
    simp [this]
  · rw [if_neg e]
    have : (x < a ∨ (x = a ∧ y < b)) ↔ (x < a ∨ (x = a ∧ y < b + 1)) := by omega
    simp only [this]

/-- What zzPrune leaves. -/
structure ZOut (w : World) (H n h : Nat) (G : Nat → Nat → Bool) (W : World) : Prop where
  out : ∃ N P, Core N G n h ∧ SInv G N n h P ∧ ZAt w H n N P W

set_option maxRecDepth 100000 in
set_option maxHeartbeats 8000000 in
theorem zzPrune_any (n t : Nat) (A : Option Addr) (b off c : Nat) (acc : List (Nat × Nat)) (w : World) (hn : n ≤ 1024) (hn0 : 2 ≤ n) (htn : t < n) (hA : 0 < acc.length → A = some ⟨b, off, none⟩) (hp : IPAt w b off (accI acc)) (hacc : ∀ p ∈ acc, p.1 < n ∧ p.2 < n ∧ p.1 ≠ p.2) (hlen : acc.length ≤ 1048576) :
    Calls Tryf.prog 12 #[.int .i64 (n : Int), .int .i64 (t : Int), .slice A acc.length c] w fun e w' => e = .returned (.tuple #[.slice (some ⟨w.heap.size, 0, none⟩) ((n + 1) * (n + 1)) ((n + 1) * (n + 1)), .slice (some ⟨w.heap.size + 1, 0, none⟩) ((n + 1) * (n + 1)) ((n + 1) * (n + 1))]) ∧
      ZOut w w.heap.size n (n - t) (cutL (fullN n) acc) w' := by
  obtain ⟨nn, hnn⟩ : ∃ nn, (n + 1) * (n + 1) = nn := ⟨_, rfl⟩
  obtain ⟨n2, hn2⟩ : ∃ n2, n * n = n2 := ⟨_, rfl⟩
  have hnb : nn ≤ 1025 * 1025 := by rw [← hnn]; exact Nat.mul_le_mul (by omega) (by omega)
  have hnb2 : n2 ≤ 1024 * 1024 := by rw [← hn2]; exact Nat.mul_le_mul hn hn
  have hni : ((n : Int) + 1) * ((n : Int) + 1) = (nn : Int) := by rw [← hnn]; simp
  have hn2i : (n : Int) * (n : Int) = (n2 : Int) := by rw [← hn2]; simp
  have hmk := run_make_row' (P := Tryf.prog) 38 4 (.bool false) 1 Tryf.underlying38 Tryf.info4 rfl .i64 .i64 nn (by omega) (by omega)
  obtain ⟨H, hH⟩ : ∃ H, w.heap.size = H := ⟨_, rfl⟩
  rw [hnn, hH]
  go_enter Tryf.func12, Tryf.ntmps12
  go_wp2_with fail
  go_loopg [11] n (fun g x wr => ∃ j : Nat, j ≤ n ∧ g = n - j ∧ x = .int .i64 ((j : Int) + 1) ∧ ZAt w H n (visN j 0) (fun _ _ => false) wr)
  case atStart =>
    refine ⟨0, Nat.zero_le _, rfl, rfl, ((Below.refl H w).alloc (by omega) _).alloc (by simp; omega) _, ?_, ?_, by simp [hH]⟩
    · have := (World.rowIs_made w (.bool false) nn 4).alloc (.cells (madeCells #[.bool false] nn) 4)
      rw [hH, ← hnn] at this
      rw [← hnn]
      exact this.congr fun k _ => by simp [adjB, visN]
    · have := World.rowIs_made (w.alloc (.cells (madeCells #[.bool false] nn) 4)) (.bool false) nn 4
      rw [World.size_alloc, hH, ← hnn] at this
      rw [← hnn]
      exact this.congr fun k _ => by simp [prB]
  case round =>
    clear hmk
    obtain ⟨a, ha, rfl, rfl, h⟩ := hrel
    by_cases han : a < n
    · have hz : (a : Int) + 1 ≤ (n : Int) := by omega
      obtain ⟨q, hq⟩ : ∃ q, (a + 1) * (n + 1) = q := ⟨_, rfl⟩
      have hqi : ((a : Int) + 1) * ((n : Int) + 1) = (q : Int) := by rw [← hq]; simp
      go_wp2_with fail
      go_loopg [12] n (fun g x wr => ∃ i : Nat, i ≤ n ∧ g = n - i ∧ x = .int .i64 ((i : Int) + 1) ∧ ZAt w H n (visN a i) (fun _ _ => false) wr)
      case atStart => exact ⟨0, Nat.zero_le _, rfl, rfl, h⟩
      case round =>
        clear h
        obtain ⟨i, hi, rfl, rfl, h⟩ := hrel
        by_cases hin : i < n
        · have hiz : (i : Int) + 1 ≤ (n : Int) := by omega
          have hq2 := ix_lt han hin
          rw [hq, hnn] at hq2
          have hq3 : (q : Int) + ((i : Int) + 1) < (nn : Int) := by omega
          by_cases hai : a = i
          · have d1 : (a : Int) + 1 = (i : Int) + 1 := by omega
            have h' := h.congr (N' := visN a (i + 1)) (fun x y hx hy hxy => by
              unfold visN
              have : (x < a ∨ (x = a ∧ y < i)) ↔ (x < a ∨ (x = a ∧ y < i + 1)) := by omega
              simp only [this])
            clear h
            go_wp2_with fail
            go_roundg (n - (i + 1))
            case measure => omega
            case rel => exact ⟨i + 1, by omega, rfl, by go_num, h'⟩
          · have d1 : ¬ ((a : Int) + 1 = (i : Int) + 1) := by omega
            have h' := (h.putA hin hai hq true).congr (N' := visN a (i + 1)) (fun x y _ _ _ => visN_put)
            have hk : q + (i + 1) < (n + 1) * (n + 1) := by omega
            have c1 := World.rowIs.cell h.adj hk
            have c2 := World.rowIs.frozen h.adj (q + (i + 1))
            clear h
            go_wp2_with fail
            go_roundg (n - (i + 1))
            case measure => omega
            case rel => exact ⟨i + 1, by omega, rfl, by go_num, h'⟩
        · have hiz : ¬ ((i : Int) + 1 ≤ (n : Int)) := by omega
          have h' := h.congr (N' := visN (a + 1) 0) (fun x y hx hy _ => by
            unfold visN
            have : (x < a ∨ (x = a ∧ y < i)) ↔ (x < a + 1 ∨ (x = a + 1 ∧ y < 0)) := by omega
            simp only [this])
          clear h
          go_wp2_with fail
          go_roundg (n - (a + 1))
          case measure => omega
          case rel => exact ⟨a + 1, by omega, rfl, by go_num, h'⟩
    · have hz : ¬ ((a : Int) + 1 ≤ (n : Int)) := by omega
      have h1 := h.congr (N' := fullN n) (fun x y hx hy _ => by
        have : x < a ∨ (x = a ∧ y < 0) := by omega
        unfold visN fullN
        rw [decide_eq_true this, decide_eq_true hy])
      have hacc' : ∀ i, i < acc.length → (acc[i]?.getD (0, 0)).1 < n ∧ (acc[i]?.getD (0, 0)).2 < n ∧ (acc[i]?.getD (0, 0)).1 ≠ (acc[i]?.getD (0, 0)).2 := fun i hi => by
        have := hacc (acc[i]) (List.getElem_mem hi)
        simpa [hi] using this
      have hbA : ∀ i, i < acc.length → b < H := fun i hi => by rw [← hH]; exact block_lt_of_cell (hp i (by rw [accI_length]; exact hi)).1
      clear h
      go_wp2_with fail
      go_loopg [53] acc.length (fun g x wr => ∃ i : Nat, i ≤ acc.length ∧ g = acc.length - i ∧ x = .int .i64 (i : Int) ∧ ZAt w H n (cutL (fullN n) (acc.take i)) (fun _ _ => false) wr)
      case atStart => exact ⟨0, Nat.zero_le _, rfl, rfl, h1⟩
      case round =>
        clear h1
        obtain ⟨i, hi, rfl, rfl, h⟩ := hrel
        by_cases hil : i < acc.length
        · have hiz : (i : Int) < (acc.length : Int) := by omega
          obtain rfl := hA (by omega)
          obtain ⟨a1, a2, a3⟩ := hacc' i hil
          obtain ⟨d1, d2⟩ := hp i (by rw [accI_length]; exact hil)
          rw [accI_get acc hil] at d1 d2
          have hbl := hbA i hil
          have c1 := (h.below.cell (p := ⟨b, off + i * 2, none⟩) hbl).trans d1
          have c2 := (h.below.cell (p := ⟨b, off + i * 2 + 1, none⟩) hbl).trans d2
          have htk : acc.take (i + 1) = acc.take i ++ [acc[i]?.getD (0, 0)] := by
            rw [List.take_add_one]
            simp [hil]
          clear d1 d2
          generalize (acc[i]?.getD (0, 0)) = p at a1 a2 a3 c1 c2 htk
          obtain ⟨p1, p2⟩ := p
          simp only at a1 a2 a3 c1 c2
          obtain ⟨q1, hq1⟩ : ∃ q, (p1 + 1) * (n + 1) = q := ⟨_, rfl⟩
          obtain ⟨q2, hq2⟩ : ∃ q, (p2 + 1) * (n + 1) = q := ⟨_, rfl⟩
          have hqi1 : ((p1 : Int) + 1) * ((n : Int) + 1) = (q1 : Int) := by rw [← hq1]; simp
          have hqi2 : ((p2 : Int) + 1) * ((n : Int) + 1) = (q2 : Int) := by rw [← hq2]; simp
          have b1 := ix_lt a1 a2
          have b2 := ix_lt a2 a1
          rw [hq1, hnn] at b1
          rw [hq2, hnn] at b2
          have b3 : (q1 : Int) + ((p2 : Int) + 1) < (nn : Int) := by omega
          have b4 : (q2 : Int) + ((p1 : Int) + 1) < (nn : Int) := by omega
          have h2 := h.putA a2 a3 hq1 false
          have h3 := h2.putA a1 (Ne.symm a3) hq2 false
          have e3 : cutL (fullN n) (acc.take (i + 1)) = putN (putN (cutL (fullN n) (acc.take i)) p1 p2 false) p2 p1 false := by
            rw [htk, cutL_snoc]
            rfl
          rw [← e3] at h3
          have x1 := World.rowIs.cell h.adj (i := q1 + (p2 + 1)) (by omega)
          have x2 := World.rowIs.frozen h.adj (q1 + (p2 + 1))
          generalize hV : wr.setCell ⟨H, q1 + (p2 + 1), none⟩ (.bool false) = V at h2 h3
          have x3 := World.rowIs.cell h2.adj (i := q2 + (p1 + 1)) (by omega)
          have x4 := World.rowIs.frozen h2.adj (q2 + (p1 + 1))
          clear h h2 htk e3
          go_wp2_with fail
          go_roundg (acc.length - (i + 1))
          case measure => omega
          case rel => exact ⟨i + 1, by omega, rfl, by go_num, h3⟩
        · have hiz : ¬ ((i : Int) < (acc.length : Int)) := by omega
          have h2 : ZAt w H n (cutL (fullN n) acc) (fun _ _ => false) wr := by
            have : acc.take i = acc := List.take_of_length_le (by omega)
            rw [this] at h
            exact h
          clear h hp hacc' hbA hA
          have hG : Gr (cutL (fullN n) acc) n := cutL_gr acc _ (fun p hp => (hacc p hp).2.2) (fullN_gr n)
          generalize hGe : cutL (fullN n) acc = G at h2 hG
          replace hGe := Kept.of hGe
          obtain ⟨h, hh⟩ : ∃ h, n - t = h := ⟨_, rfl⟩
          have hhi : (n : Int) - (t : Int) = (h : Int) := by omega
          have he0 := edges_lt G (n := n) (by omega)
          rw [hn2] at he0
          replace hG := Kept.of hG
          go_wp2_with fail
          go_loopg [17] n2 (fun g x wr => ∃ (k : Nat) (N P : Nat → Nat → Bool), g = n2 - k ∧ x = .int .i64 (k : Int) ∧ SInv G N n h P ∧ edges N n + k < n2 ∧ ZAt w H n N P wr)
          case atStart => exact ⟨0, G, fun _ _ => false, rfl, rfl, SInv.start hG, by omega, h2⟩
          case round =>
            clear h2
            obtain ⟨k, N, P, rfl, rfl, hs, he, hz⟩ := hrel
            have hk : (k : Int) < (n2 : Int) := by omega
            have hsw := Swp.begin hs (E := edges N n) (Nat.le_refl _)
            generalize edges N n = E at he hsw
            clear hs
            go_wp2_with fail
            go_loopg [19, 18] n (fun g x r wr => ∃ (a : Nat) (rb : Bool) (N P : Nat → Nat → Bool), a ≤ n ∧ g = n - a ∧ x = .int .i64 ((a : Int) + 1) ∧ r = .bool rb ∧ Swp G N n h P E a (a + 1) rb ∧ ZAt w H n N P wr)
            case atStart => exact ⟨0, false, N, P, Nat.zero_le _, rfl, rfl, rfl, hsw, hz⟩
            case round =>
              clear hsw hz
              obtain ⟨a, rb, N, P, ha, rfl, rfl, rfl, hsw, hz⟩ := hrel
              by_cases han : a < n
              · have haz : (a : Int) + 1 ≤ (n : Int) := by omega
                obtain ⟨q, hq⟩ : ∃ q, (a + 1) * (n + 1) = q := ⟨_, rfl⟩
                have hqi : ((a : Int) + 1) * ((n : Int) + 1) = (q : Int) := by rw [← hq]; simp
                go_wp2_with fail
                go_loopg [20, 18] (n - (a + 1)) (fun g x r wr => ∃ (i : Nat) (rb : Bool) (N P : Nat → Nat → Bool), a + 1 ≤ i ∧ i ≤ n ∧ g = n - i ∧ x = .int .i64 ((i : Int) + 1) ∧ r = .bool rb ∧ Swp G N n h P E a i rb ∧ ZAt w H n N P wr)
                case atStart => exact ⟨a + 1, rb, N, P, Nat.le_refl _, by omega, rfl, by go_num, rfl, hsw, hz⟩
                case round =>
                  clear hsw hz
                  obtain ⟨i, rb, N, P, hai, hi, rfl, rfl, rfl, hsw, hz⟩ := hrel
                  by_cases hin : i < n
                  · have hiz : (i : Int) + 1 ≤ (n : Int) := by omega
                    have b1 := ix_lt han hin
                    rw [hq, hnn] at b1
                    have b3 : (q : Int) + ((i : Int) + 1) < (nn : Int) := by omega
                    have c1 := hz.adj.at han hin (by omega) hq
                    cases hN : N a i with
                    | false =>
                      rw [hN] at c1
                      have hsw' := hsw.skip (fun e => by rw [hN] at e; cases e)
                      clear hsw
                      go_wp2_with fail
                      go_roundg (n - (i + 1))
                      case measure => omega
                      case rel => exact ⟨i + 1, rb, N, P, by omega, by omega, rfl, by go_num, rfl, hsw', hz⟩
                    | true =>
                      rw [hN] at c1
                      have hcm := zzCommon_any H n a i nn nn N wr hz.adj hsw.inv.gr han hin hn hnn
                      have hcl := comm_le N n a i
                      by_cases hlt : comm N n a i < h
                      · have hlz : (comm N n a i : Int) < (h : Int) := by omega
                        have hsw' := hsw.cut (by omega) hin hN hlt
                        generalize comm N n a i = cc at hcm hcl hlz
                        clear hlt hsw hN
                        obtain ⟨q2, hq2⟩ : ∃ q, (i + 1) * (n + 1) = q := ⟨_, rfl⟩
                        have hqi2 : ((i : Int) + 1) * ((n : Int) + 1) = (q2 : Int) := by rw [← hq2]; simp
                        have b2 := ix_lt hin han
                        rw [hq2, hnn] at b2
                        have b4 : (q2 : Int) + ((a : Int) + 1) < (nn : Int) := by omega
                        have x2 := World.rowIs.frozen hz.adj (q + (i + 1))
                        have h2 := hz.putA hin (by omega) hq false
                        have h3 := h2.putA han (by omega) hq2 false
                        have h4 := h3.putP hin hq true
                        generalize hV : wr.setCell ⟨H, q + (i + 1), none⟩ (.bool false) = V at h2 h3 h4
                        have x3 := World.rowIs.cell h2.adj (i := q2 + (a + 1)) (by omega)
                        have x4 := World.rowIs.frozen h2.adj (q2 + (a + 1))
                        generalize hV2 : V.setCell ⟨H, q2 + (a + 1), none⟩ (.bool false) = V2 at h3 h4
                        have x5 := World.rowIs.cell h3.pr (i := q + (i + 1)) (by omega)
                        have x6 := World.rowIs.frozen h3.pr (q + (i + 1))
                        clear h2 h3 hz
                        go_wp2_with (go_at_call 27; refine hcm.mono ?_; rintro e w' ⟨rfl, rfl⟩)
                        go_roundg (n - (i + 1))
                        case measure => omega
                        case rel => exact ⟨i + 1, true, _, _, by omega, by omega, rfl, by go_num, rfl, hsw', h4⟩
                      · have hlz : ¬ ((comm N n a i : Int) < (h : Int)) := by omega
                        have hsw' := hsw.skip (fun _ => by omega)
                        generalize comm N n a i = cc at hcm hcl hlz
                        clear hlt hsw hN
                        go_wp2_with (go_at_call 27; refine hcm.mono ?_; rintro e w' ⟨rfl, rfl⟩)
                        go_roundg (n - (i + 1))
                        case measure => omega
                        case rel => exact ⟨i + 1, rb, N, P, by omega, by omega, rfl, by go_num, rfl, hsw', hz⟩
                  · have hiz : ¬ ((i : Int) + 1 ≤ (n : Int)) := by omega
                    have hsw' := hsw.next (by omega)
                    clear hsw
                    go_wp2_with fail
                    go_roundg (n - (a + 1))
                    case measure => omega
                    case rel => exact ⟨a + 1, rb, N, P, by omega, rfl, by go_num, rfl, hsw', hz⟩
              · have haz : ¬ ((a : Int) + 1 ≤ (n : Int)) := by omega
                cases rb with
                | false =>
                  have hco := hsw.core (by omega)
                  have hin := hsw.inv
                  clear hsw
                  go_wp2_with fail
                  go_ret2
                  unfold Kept at hGe
                  subst hGe
                  subst hh
                  exact ⟨rfl, N, P, hco, hin, hz⟩
                | true =>
                  have hin := hsw.inv
                  have hfew := hsw.few
                  simp only [if_true] at hfew
                  clear hsw
                  go_wp2_with fail
                  go_roundg (n2 - (k + 1))
                  case measure => omega
                  case rel => exact ⟨k + 1, N, P, rfl, by go_num, hin, by omega, hz⟩

end Go.Proofs.Qxb6615834aFmt
