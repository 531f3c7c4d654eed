/-
  Appends onto two rows of one cell an element; and the guard.
-/
import Derived.Test.Qxb6616089aRuns
namespace Go.Proofs.Qxb6616089a
open Go.RowKit Go.Maps

set_option maxHeartbeats 1000000 in
theorem bytes12_any (A1 A2 A3 : Option Addr) (n1 n2 n3 c1 c2 c3 : Nat) (x y z u : Int) (w : World) :
    Calls Try.prog 12 #[.int .u64 x, .int .u64 y, .slice A1 n1 c1, .int .u64 z, .int .u64 u, .slice A2 n2 c2, .slice A3 n3 c3] w fun e w' => SomeBool e ∧ w' = w := by
  by_cases h1 : (1048576 : Int) < (n1 : Int)
  · go_enter Try.func12, Try.ntmps12
    go_wp2
    go_ret
    exact ⟨someBool_mk, rfl⟩
  by_cases h2 : (1048576 : Int) < (n2 : Int)
  · go_enter Try.func12, Try.ntmps12
    go_wp2
    go_ret
    exact ⟨someBool_mk, rfl⟩
  by_cases h3 : (1048576 : Int) < (n1 : Int) + (n2 : Int)
  · go_enter Try.func12, Try.ntmps12
    go_wp2
    go_ret
    exact ⟨someBool_mk, rfl⟩
  by_cases h4 : (1048576 : Int) < (n3 : Int)
  · go_enter Try.func12, Try.ntmps12
    go_wp2
    go_ret
    exact ⟨someBool_mk, rfl⟩
  go_enter Try.func12, Try.ntmps12
  go_wp2
  all_goals
    go_ret
    exact ⟨someBool_mk, rfl⟩

/-- 'xs = append(xs, x)', xs the call's own row of one-cell elements -/
theorem wpList_append_one (w : World) {ops : Array Oper} {rest : List Oper} {o : Oper} {a : Act} {Q : Exit → Act → World → Prop} (hgd : o.guard = none) (s x : Operand) (t e : TypeId) (z : Value)
    (ho : o.op = .call { callee := .builtin .append, args := #[s, x], argTypes := #[t, t] }) (ht : Try.prog.underlying t = some (.slice e)) (hinfo : (Try.prog.info? e).map (fun i => (i.zero, i.size, i.bytes)) = some (some z, 1, 8)) (hz1 : z.cells.size = 1)
    (base g n cap : Nat) (xs : List Value) (hs : a.eval s = .slice (some ⟨g, 0, none⟩) n cap)
    (hown : w.ownsRow base e 1 (.slice (some ⟨g, 0, none⟩) n cap) n xs) (B : Nat) (p : Value) (hp : p.oneCell' = true) (hx : a.eval x = .slice (some ⟨B, 0, none⟩) 1 1) (hB : w.heap[B]? = some (.cells #[p] e)) (hn : n ≤ 65536) (hbase : base ≤ w.heap.size)
    (h : ∀ g' cap' w', w'.ownsRow base e 1 (.slice (some ⟨g', 0, none⟩) (n + 1) cap') (n + 1) (xs ++ [p]) → w.grownBy w' (some g) → (g' = g ∨ w.heap.size ≤ g') → wpList Try.prog ops Q rest (a.put o.dst (.slice (some ⟨g', 0, none⟩) (n + 1) cap')) w') :
    wpList Try.prog ops Q (o :: rest) a w := by
  obtain ⟨i0, hi, hz0, hsz, hby⟩ := info_parts hinfo
  exact wpList_append_lies w hgd s x t ho base e i0 z 1 8 ht hi hz0 hsz hby hz1 (by decide) _ n xs hs hown ⟨B, 0, none⟩ 1 1 [p] hx rfl (World.news_of_block hB) (by simpa using hp) (by decide) (by unfold maxLen; omega) (by omega) hbase w.heap.size rfl
    (fun g' cap' w' h1 h2 h3 _ => h g' cap' w' h1 h2 (by
      rcases h3 with h3 | h3
      · left
        simpa [Value.ownBlock] using h3.symm
      · right; omega))

/-- two rows of the call's own, apart -/
structure Two (w0 w : World) (base g c h d k : Nat) (F G : Nat → Value) : Prop where
  below : Below base w0 w
  size : base ≤ w.heap.size
  ne : g ≠ h
  first : w.ownsRow base 3 1 (.slice (some ⟨g, 0, none⟩) k c) k ((List.range k).map F)
  second : w.ownsRow base 24 1 (.slice (some ⟨h, 0, none⟩) k d) k ((List.range k).map G)

theorem range_snoc (F : Nat → Value) (k : Nat) : (List.range k).map F ++ [F k] = (List.range (k + 1)).map F := by
  rw [List.range_succ, List.map_append]; rfl

/-- the first append of a round -/
structure TwoMid (w0 w : World) (base g c h d k : Nat) (F G : Nat → Value) : Prop where
  below : Below base w0 w
  size : base ≤ w.heap.size
  ne : g ≠ h
  first : w.ownsRow base 3 1 (.slice (some ⟨g, 0, none⟩) (k + 1) c) (k + 1) ((List.range (k + 1)).map F)
  second : w.ownsRow base 24 1 (.slice (some ⟨h, 0, none⟩) k d) k ((List.range k).map G)

theorem Two.mid {w0 w w1 : World} {base g c h d k g' c' : Nat} {F G : Nat → Value} {o : Obj} (t : Two w0 w base g c h d k F G)
    (hown : w1.ownsRow base 3 1 (.slice (some ⟨g', 0, none⟩) (k + 1) c') (k + 1) ((List.range k).map F ++ [F k])) (hg : (w.alloc o).grownBy w1 (some g)) (hat : g' = g ∨ (w.alloc o).heap.size ≤ g') : TwoMid w0 w1 base g' c' h d k F G := by
  have hgl := t.first.lt g rfl
  have hhl := t.second.lt h rfl
  refine ⟨(t.below.alloc t.size o).grown hg (by have := t.size; simp; omega) (fun k hk => by cases hk; exact hgl.1), Nat.le_trans (by have := t.size; simp; omega) hg.size, ?_, by rw [← range_snoc]; exact hown, (t.second.alloc o).kept hg (Or.inr (by simpa [Value.ownBlock] using fun e => t.ne e.symm))⟩
  rcases hat with rfl | hat
  · exact t.ne
  · simp at hat; omega

theorem TwoMid.done {w0 w w1 : World} {base g c h d k h' d' : Nat} {F G : Nat → Value} {o : Obj} (t : TwoMid w0 w base g c h d k F G)
    (hown : w1.ownsRow base 24 1 (.slice (some ⟨h', 0, none⟩) (k + 1) d') (k + 1) ((List.range k).map G ++ [G k])) (hg : (w.alloc o).grownBy w1 (some h)) (hat : h' = h ∨ (w.alloc o).heap.size ≤ h') : Two w0 w1 base g c h' d' (k + 1) F G := by
  have hgl := t.first.lt g rfl
  have hhl := t.second.lt h rfl
  refine ⟨(t.below.alloc t.size o).grown hg (by have := t.size; simp; omega) (fun k hk => by cases hk; exact hhl.1), Nat.le_trans (by have := t.size; simp; omega) hg.size, ?_, (t.first.alloc o).kept hg (Or.inr (by simpa [Value.ownBlock] using t.ne)), by rw [← range_snoc]; exact hown⟩
  rcases hat with rfl | hat
  · exact t.ne
  · simp at hat; omega

theorem Two.cellF {w0 w : World} {base g c h d k : Nat} {F G : Nat → Value} (t : Two w0 w base g c h d k F G) {i : Nat} (hi : i < k) : w.cell? ⟨g, i, none⟩ = some (F i) := by
  have := t.first.cells (g := g) rfl i (F i) (by simp [hi])
  rwa [show (⟨g, 0, none⟩ : Addr).add i = ⟨g, i, none⟩ by unfold Addr.add; split <;> simp_all] at this
theorem Two.cellG {w0 w : World} {base g c h d k : Nat} {F G : Nat → Value} (t : Two w0 w base g c h d k F G) {i : Nat} (hi : i < k) : w.cell? ⟨h, i, none⟩ = some (G i) := by
  have := t.second.cells (g := h) rfl i (G i) (by simp [hi])
  rwa [show (⟨h, 0, none⟩ : Addr).add i = ⟨h, i, none⟩ by unfold Addr.add; split <;> simp_all] at this

/-- 'make([]T, 0, total)', total a uint64 -/
theorem run_make_cap (t e : TypeId) (z : Value) (ht : Try.prog.underlying t = some (.slice e)) (hinfo : (Try.prog.info? e).map (fun i => (i.zero, i.size, i.bytes)) = some (some z, 1, 8)) (hz : z.cells = #[z]) (T : Nat) (hT : T ≤ 65536) (w : World) :
    (Instr.makeSlice t (.int .i64 0) (.int .u64 T)).run Try.prog w = .ok (.slice (some ⟨w.heap.size, 0, none⟩) 0 T) (w.alloc (.cells (madeCells #[z] T) e)) := by
  obtain ⟨i, hi, hz0, hsz, hby⟩ := info_parts hinfo
  have := run_make (P := Try.prog) w t e i z ht hi hz0 .i64 .u64 0 T (by omega) (by omega) (by rw [hby]; omega) (by omega)
  rw [hsz, Nat.mul_one, Int.toNat_natCast, hz] at this
  exact this

end Go.Proofs.Qxb6616089a
