/-
  buildOrdering walked.
-/
import Derived.Test.Qxb6616089aOrd
namespace Go.Proofs.Qxb6616089a
open Go.RowKit Go.Maps

theorem Try.info3 : (Try.prog.info? 3).map (fun i => (i.zero, i.size, i.bytes)) = some (some (.int .i64 0), 1, 8) := by kernel_rfl

/-- n triples lie in block b from cell off on -/
structure TripAt (w : World) (b off n : Nat) (X Y Z : Nat → Value) : Prop where
  x : ∀ i, i < n → w.cell? ⟨b, off + i * 3, none⟩ = some (X i)
  y : ∀ i, i < n → w.cell? ⟨b, off + i * 3 + 1, none⟩ = some (Y i)
  z : ∀ i, i < n → w.cell? ⟨b, off + i * 3 + 2, none⟩ = some (Z i)
theorem TripAt.keep {w w' : World} {b off n : Nat} {X Y Z : Nat → Value} (h : TripAt w b off n X Y Z) (hb : Below w.heap.size w w') : TripAt w' b off n X Y Z := by
  have key : ∀ {o : Nat} {v : Value}, w.cell? ⟨b, o, none⟩ = some v → w'.cell? ⟨b, o, none⟩ = some v := fun {o v} h => by
    have hlt : b < w.heap.size := World.block_lt_of_cell? _ _ h
    rw [hb.cell (p := ⟨b, o, none⟩) hlt]; exact h
  exact ⟨fun i hi => key (h.x i hi), fun i hi => key (h.y i hi), fun i hi => key (h.z i hi)⟩

def upToV (f : Nat → Value) (z : Value) (i k : Nat) : Value := if k < i then f k else z
theorem upToV_step {w : World} {b t n i : Nat} {f : Nat → Value} {z : Value} (h : w.rowIs b t n (upToV f z i)) : (w.setCell ⟨b, i, none⟩ (f i)).rowIs b t n (upToV f z (i + 1)) := by
  refine (h.set i _).congr (fun k hk => ?_)
  by_cases e : k = i
  · subst e; simp [upToV]
  · rw [if_neg e]
    unfold upToV
    by_cases h3 : k < i
    · rw [if_pos h3, if_pos (by omega)]
    · rw [if_neg h3, if_neg (by omega)]
theorem upToV_full {w : World} {b t n : Nat} {f : Nat → Value} {z : Value} (h : w.rowIs b t n (upToV f z n)) : w.rowIs b t n f :=
  h.congr (fun i hi => by simp [upToV, hi])

/-- three new rows, filled up to i -/
structure Three (w wr : World) (t0 t1 t2 n : Nat) (f0 f1 f2 : Nat → Value) (z0 z1 z2 : Value) (i : Nat) : Prop where
  below : Below w.heap.size w wr
  r0 : wr.rowIs w.heap.size t0 n (upToV f0 z0 i)
  r1 : wr.rowIs (w.heap.size + 1) t1 n (upToV f1 z1 i)
  r2 : wr.rowIs (w.heap.size + 1 + 1) t2 n (upToV f2 z2 i)

theorem three_start (w : World) (t0 t1 t2 n : Nat) (f0 f1 f2 : Nat → Value) (z0 z1 z2 : Value) :
    Three w (((w.alloc (.cells (madeCells #[z0] n) t0)).alloc (.cells (madeCells #[z1] n) t1)).alloc (.cells (madeCells #[z2] n) t2)) t0 t1 t2 n f0 f1 f2 z0 z1 z2 0 := by
  refine ⟨(((Below.refl _ _).alloc (Nat.le_refl _) _).alloc (by simp) _).alloc (by simp; omega) _, (((World.rowIs_made w z0 n t0).alloc _).alloc _).congr (fun k _ => by simp [upToV]), ?_, ?_⟩
  · have := (World.rowIs_made (w.alloc (.cells (madeCells #[z0] n) t0)) z1 n t1).alloc (.cells (madeCells #[z2] n) t2)
    rw [Deep.nblk_alloc] at this
    exact this.congr (fun k _ => by simp [upToV])
  · have := World.rowIs_made ((w.alloc (.cells (madeCells #[z0] n) t0)).alloc (.cells (madeCells #[z1] n) t1)) z2 n t2
    rw [Deep.nblk_alloc, Deep.nblk_alloc] at this
    exact this.congr (fun k _ => by simp [upToV])

theorem three_step {w wr : World} {t0 t1 t2 n : Nat} {f0 f1 f2 : Nat → Value} {z0 z1 z2 : Value} {i : Nat} (h : Three w wr t0 t1 t2 n f0 f1 f2 z0 z1 z2 i) :
    Three w (((wr.setCell ⟨w.heap.size, i, none⟩ (f0 i)).setCell ⟨w.heap.size + 1, i, none⟩ (f1 i)).setCell ⟨w.heap.size + 1 + 1, i, none⟩ (f2 i)) t0 t1 t2 n f0 f1 f2 z0 z1 z2 (i + 1) :=
  ⟨((h.below.setCell (Nat.le_refl _) _).setCell (Nat.le_succ _) _).setCell (by show w.heap.size ≤ w.heap.size + 1 + 1; omega) _,
   ((upToV_step h.r0).setOther (by show w.heap.size ≠ w.heap.size + 1; omega) _).setOther (by show w.heap.size ≠ w.heap.size + 1 + 1; omega) _,
   (upToV_step (h.r1.setOther (by show w.heap.size + 1 ≠ w.heap.size; omega) _)).setOther (by show w.heap.size + 1 ≠ w.heap.size + 1 + 1; omega) _,
   upToV_step ((h.r2.setOther (by show w.heap.size + 1 + 1 ≠ w.heap.size; omega) _).setOther (by show w.heap.size + 1 + 1 ≠ w.heap.size + 1; omega) _)⟩

theorem far1 {w : World} {b g o i : Nat} {v : Value} (h : b ≠ g) (hc : w.cell? ⟨b, o, none⟩ = some v) (u : Value) : (w.setCell ⟨g, i, none⟩ u).cell? ⟨b, o, none⟩ = some v := by
  rw [World.cell?_setCell_other _ _ _ _ (fun e => by have := congrArg Addr.block e; simp at this; omega)]; exact hc

set_option maxHeartbeats 1000000 in
theorem buildOrdering_any (nx ps : Int) (A : Option Addr) (b off n cap : Nat) (K S Q : Nat → Int) (w : World) (hn : n ≤ 65536) (hwf : ∀ i, i < n → (Lit.int .u64 (K i)).wf = true)
    (hA : 0 < n → A = some ⟨b, off, none⟩) (hT : TripAt w b off n (fun i => .int .u64 (K i)) (fun i => .int .i64 (S i)) (fun i => .int .u64 (Q i))) :
    Calls Try.prog 13 #[.int .u64 nx, .int .u64 ps, .slice A n cap] w fun e w' => ∃ r B, e = .returned (.pointer (some ⟨r, 0, none⟩)) ∧ w.heap.size ≤ r ∧ w.heap.size ≤ B ∧ Below w.heap.size w w' ∧ OrdAt w' r B nx ps n (d0 K S Q n) := by
  have hmk := run_make_row' (P := Try.prog) 35 24 (.int .u64 0) 8 Try.underlying35 Try.info24 rfl .i64 .i64 n (by omega) (by omega)
  have hmk2 := run_make_row' (P := Try.prog) 39 3 (.int .i64 0) 8 Try.underlying39 Try.info3 rfl .i64 .i64 n (by omega) (by omega)
  go_enter Try.func13, Try.ntmps13
  go_wp2
  clear hmk hmk2
  go_loopg [10] n (fun g x wr => ∃ i : Nat, i ≤ n ∧ g = n - i ∧ x = .int .i64 i ∧ Three w wr 24 3 24 n (fun i => .int .u64 (K i)) (fun i => .int .i64 (S i)) (fun i => .int .u64 (Q i)) (.int .u64 0) (.int .i64 0) (.int .u64 0) i)
  case atStart => exact ⟨0, Nat.zero_le _, rfl, rfl, three_start _ _ _ _ _ _ _ _ _ _ _⟩
  case round =>
    obtain ⟨i, hi, rfl, rfl, h3⟩ := hrel
    by_cases hlt : i < n
    · obtain rfl := hA (by omega)
      clear hA
      have hz : (i : Int) < (n : Int) := by omega
      have hTw := hT.keep h3.below
      have hbb : b < w.heap.size := World.block_lt_of_cell? _ _ (hT.x i hlt)
      have c0 := hTw.x i hlt
      have c1 : ∀ u, (wr.setCell ⟨w.heap.size, i, none⟩ u).cell? ⟨b, off + i * 3 + 1, none⟩ = some (.int .i64 (S i)) := fun u => far1 (by omega) (hTw.y i hlt) u
      have c2 : ∀ u v, ((wr.setCell ⟨w.heap.size, i, none⟩ u).setCell ⟨w.heap.size + 1, i, none⟩ v).cell? ⟨b, off + i * 3 + 2, none⟩ = some (.int .u64 (Q i)) := fun u v => far1 (by omega) (far1 (by omega) (hTw.z i hlt) u) v
      have d0 : wr.cell? ⟨w.heap.size, i, none⟩ = some _ := h3.r0.cell hlt
      have f0 := h3.r0.frozen i
      have d1 : ∀ u, (wr.setCell ⟨w.heap.size, i, none⟩ u).cell? ⟨w.heap.size + 1, i, none⟩ = some _ := fun u => far1 (by omega) (h3.r1.cell hlt) u
      have f1 := h3.r1.frozen i
      have d2 : ∀ u v, ((wr.setCell ⟨w.heap.size, i, none⟩ u).setCell ⟨w.heap.size + 1, i, none⟩ v).cell? ⟨w.heap.size + 1 + 1, i, none⟩ = some _ := fun u v => far1 (by omega) (far1 (by omega) (h3.r2.cell hlt) u) v
      have f2 := h3.r2.frozen i
      clear hTw
      go_wp2
      go_roundg (n - (i + 1))
      case measure => go_light; omega
      case rel => go_light; have h4 := three_step h3; exact ⟨i + 1, by omega, rfl, by go_num, h4⟩
    · have e : n = i := by omega
      subst e
      go_wp2_with (go_at_call 23; refine (newOrdering_any nx ps _ _ _ n K S Q _ hn hwf (upToV_full h3.r0) (upToV_full h3.r1) (upToV_full h3.r2)).mono ?_; rintro e w' ⟨rfl, hb, ho⟩)
      go_ret
      have := h3.below.size
      exact ⟨_, _, rfl, by omega, by omega, below2 h3.below hb, ho⟩

end Go.Proofs.Qxb6616089a
