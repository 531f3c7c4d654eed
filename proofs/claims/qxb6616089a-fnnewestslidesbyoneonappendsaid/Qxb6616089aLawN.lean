/-
  The law FnNewestOfJoinedEndsWithNewestOfTail: the walk.
-/
import Derived.Test.Qxb6616089aNew
namespace Go.Proofs.Qxb6616089a
open Go.RowKit

def flatR (F L : Nat → Int) : Nat → List Value
  | 0 => []
  | i + 1 => flatR F L i ++ [.int .u64 (F i), .int .u64 (L i)]
theorem flatR_length (F L : Nat → Int) : ∀ i, (flatR F L i).length = i * 2
  | 0 => rfl
  | i + 1 => by rw [flatR, List.length_append, flatR_length F L i]; simp; omega
theorem flatR_first (F L : Nat → Int) : ∀ {n i : Nat}, i < n → (flatR F L n)[i * 2]? = some (.int .u64 (F i))
  | n + 1, i, h => by
    rw [flatR]
    rcases Nat.lt_succ_iff_lt_or_eq.1 h with h | h
    · rw [List.getElem?_append_left (by rw [flatR_length]; omega)]; exact flatR_first F L h
    · subst h; rw [List.getElem?_append_right (by rw [flatR_length]; omega), flatR_length]; simp
theorem flatR_last (F L : Nat → Int) : ∀ {n i : Nat}, i < n → (flatR F L n)[i * 2 + 1]? = some (.int .u64 (L i))
  | n + 1, i, h => by
    rw [flatR]
    rcases Nat.lt_succ_iff_lt_or_eq.1 h with h | h
    · rw [List.getElem?_append_left (by rw [flatR_length]; omega)]; exact flatR_last F L h
    · subst h; rw [List.getElem?_append_right (by rw [flatR_length]; omega), flatR_length, show i * 2 + 1 - i * 2 = 1 by omega]; simp

theorem owns_ranges {w : World} {base g n cap : Nat} {F L : Nat → Int} (h : w.ownsRow base 26 2 (.slice (some ⟨g, 0, none⟩) n cap) n (flatR F L n)) : RangesAt w g 0 n F L := by
  have key : ∀ j u, (flatR F L n)[j]? = some u → w.cell? ⟨g, j, none⟩ = some u := fun j u hu => by
    have := h.cells (g := g) rfl j u hu
    rwa [show (⟨g, 0, none⟩ : Addr).add j = ⟨g, j, none⟩ by unfold Addr.add; split <;> simp_all] at this
  exact ⟨fun i hi => by rw [Nat.zero_add]; exact key _ _ (flatR_first F L hi), fun i hi => by rw [Nat.zero_add]; exact key _ _ (flatR_last F L hi)⟩

/-- 'joined = append(joined, r)' -/
theorem wpList_append_pair (w : World) {ops : Array Oper} {rest : List Oper} {o : Oper} {a : Act} {Q : Exit → Act → World → Prop} (hgd : o.guard = none) (s x : Operand)
    (ho : o.op = .call { callee := .builtin .append, args := #[s, x], argTypes := #[22, 22] }) (base g n cap : Nat) (xs : List Value) (hs : a.eval s = .slice (some ⟨g, 0, none⟩) n cap)
    (hown : w.ownsRow base 26 2 (.slice (some ⟨g, 0, none⟩) n cap) n xs) (B : Nat) (p q : Int) (hx : a.eval x = .slice (some ⟨B, 0, none⟩) 1 1) (hB : w.heap[B]? = some (.cells #[.int .u64 p, .int .u64 q] 26)) (hn : n ≤ 65536) (hbase : base ≤ w.heap.size)
    (h : ∀ g' cap' w', w'.ownsRow base 26 2 (.slice (some ⟨g', 0, none⟩) (n + 1) cap') (n + 1) (xs ++ [.int .u64 p, .int .u64 q]) → w.grownBy w' (some g) → wpList Try.prog ops Q rest (a.put o.dst (.slice (some ⟨g', 0, none⟩) (n + 1) cap')) w') :
    wpList Try.prog ops Q (o :: rest) a w := by
  obtain ⟨i0, hi, hz0, hz1, hz2⟩ := info_parts Try.info26
  exact wpList_append_lies w hgd s x 22 ho base 26 i0 _ 2 16 Try.underlying22 hi hz0 hz1 hz2 rfl (by decide) _ n xs hs hown ⟨B, 0, none⟩ 1 1 [.int .u64 p, .int .u64 q] hx rfl (World.news_of_block hB) (by simp [Value.oneCell']) (by decide) (by unfold maxLen; omega) (by omega) hbase w.heap.size rfl
    (fun g' cap' w' h1 h2 _ _ => h g' cap' w' h1 h2)

theorem Below.append {w0 w w' : World} {g : Nat} (hB : Below w0.heap.size w0 w) (o : Obj) (hg : (w.alloc o).grownBy w' (some g)) (h : w0.heap.size ≤ g) : Below w0.heap.size w0 w' :=
  (hB.alloc hB.size o).grown hg (by have := hB.size; simp; omega) (fun k hk => by cases hk; exact h)

def glue (n : Nat) (F F' : Nat → Int) (i : Nat) : Int := if i < n then F i else F' (i - n)
theorem glue_lt {n : Nat} {F F' : Nat → Int} {i : Nat} (h : i < n) : glue n F F' i = F i := by simp [glue, h]
theorem glue_ge {n : Nat} {F F' : Nat → Int} {i : Nat} : glue n F F' (n + i) = F' i := by unfold glue; rw [if_neg (by omega), Nat.add_sub_cancel_left]

/-- either list, built -/
theorem buildRanges_any (A : Option Addr) (b off n cap : Nat) (F L : Nat → Int) (w : World) (hn : n ≤ 65536) (hA : 0 < n → A = some ⟨b, off, none⟩) (hnil : A = none → n = 0 ∧ cap = 0) (hR : RangesAt w b off n F L) :
    Calls Try.prog 8 #[.slice A n cap] w fun e w' => ∃ B g, e = .returned (.slice B n n) ∧ (0 < n → B = some ⟨g, 0, none⟩) ∧ Below w.heap.size w w' ∧ RangesAt w' g 0 n F L := by
  cases A with
  | none =>
    obtain ⟨rfl, rfl⟩ := hnil rfl
    refine (buildRanges_nil w).mono ?_
    rintro e w' ⟨rfl, rfl⟩
    exact ⟨none, 0, rfl, fun h => absurd h (Nat.lt_irrefl _), Below.refl _ _, ⟨fun i hi => absurd hi (Nat.not_lt_zero _), fun i hi => absurd hi (Nat.not_lt_zero _)⟩⟩
  | some a =>
    refine (buildRanges_some a b off n cap F L w hn (fun h => Option.some.inj (hA h)) hR).mono ?_
    rintro e w' ⟨g, rfl, hb, hr⟩
    exact ⟨_, g, rfl, fun _ => rfl, hb, hr⟩

set_option maxHeartbeats 1000000 in
theorem lawN_any (A A' : Option Addr) (b off n cap b' off' m cap' : Nat) (F L F' L' : Nat → Int) (w : World)
    (hA : 0 < n → A = some ⟨b, off, none⟩) (hR : RangesAt w b off n F L) (hA' : 0 < m → A' = some ⟨b', off', none⟩) (hR' : RangesAt w b' off' m F' L') (hnil : A' = none → m = 0 ∧ cap' = 0) :
    Calls Try.prog 3 #[.slice A n cap, .slice A' m cap'] w fun e w' => e = .returned (.bool true) ∧ Below w.heap.size w w' := by
  go_enter Try.func3, Try.ntmps3
  go_wp2_with fail
  refine (bytes6_any A A' n m cap cap' w).mono ?_
  rintro e w0 ⟨⟨bv, rfl⟩, rfl⟩
  cases bv
  · go_wp2_with fail
    go_ret
    exact ⟨rfl, Below.refl _ _⟩
  by_cases h1 : (32768 : Int) < (n : Int)
  · go_wp2_with fail
    go_ret
    exact ⟨rfl, Below.refl _ _⟩
  by_cases h2 : (32768 : Int) < (m : Int)
  · go_wp2_with fail
    go_ret
    exact ⟨rfl, Below.refl _ _⟩
  by_cases h3 : (32768 : Int) < (n : Int) + (m : Int)
  · go_wp2_with fail
    go_ret
    exact ⟨rfl, Below.refl _ _⟩
  have hmk := run_make_pairs Try.underlying22 Try.info26 0 ((n : Int) + m) (by omega) (by omega) (by omega)
  rw [show ((n : Int) + (m : Int)).toNat = n + m by omega, show (0 : Int).toNat = 0 by rfl] at hmk
  go_wp2_with fail
  clear hmk
  go_loopg [5, 6] n (fun g v x wr => ∃ (i gb c : Nat), i ≤ n ∧ g = n - i ∧ x = .int .i64 i ∧ v = .slice (some ⟨gb, 0, none⟩) i c ∧ Below w0.heap.size w0 wr ∧ w0.heap.size ≤ gb ∧ wr.ownsRow w0.heap.size 26 2 (.slice (some ⟨gb, 0, none⟩) i c) i (flatR (glue n F F') (glue n L L') i))
  case atStart => exact ⟨0, _, _, Nat.zero_le _, rfl, rfl, rfl, (Below.refl _ _).alloc (Nat.le_refl _) _, Nat.le_refl _, World.ownsRow_made w0 _ (n + m) (Nat.le_refl _) (by unfold maxLen; omega) (size_madeCells _ _)⟩
  case round =>
    obtain ⟨i, gb, c, hi, rfl, rfl, rfl, hB, hgb, hown⟩ := hrel
    by_cases hlt : i < n
    · obtain rfl := hA (by omega)
      clear hA
      have hz : (i : Int) < (n : Int) := by omega
      have hRx := hR.keep hB
      have c1 := hRx.first i hlt
      have c2 := hRx.last i hlt
      clear hRx
      go_wp2_with (at_builtin; refine wpList_append_pair _ rfl _ _ rfl w0.heap.size gb i c _ rfl (hown.alloc _) wr.heap.size (F i) (L i) rfl (heap_alloc_new wr _) (by omega) (by have := hB.size; simp; omega) ?_; intro g' c' w1 hown1 hgrow)
      go_roundg (n - (i + 1))
      case measure => go_light; omega
      case rel =>
        go_light
        refine ⟨i + 1, g', c', by omega, rfl, by go_num, by go_num, Below.append hB _ hgrow hgb, (hown1.lt g' rfl).1, ?_⟩
        rw [flatR, glue_lt hlt, glue_lt hlt]
        exact hown1
    · have e : n = i := by omega
      subst e
      clear hlt hi
      go_wp2_with fail
      go_loopg [5, 7] m (fun g v x wx => ∃ (i gb c : Nat), i ≤ m ∧ g = m - i ∧ x = .int .i64 i ∧ v = .slice (some ⟨gb, 0, none⟩) (n + i) c ∧ Below w0.heap.size w0 wx ∧ w0.heap.size ≤ gb ∧ wx.ownsRow w0.heap.size 26 2 (.slice (some ⟨gb, 0, none⟩) (n + i) c) (n + i) (flatR (glue n F F') (glue n L L') (n + i)))
      case atStart => exact ⟨0, gb, c, Nat.zero_le _, rfl, rfl, rfl, hB, hgb, hown⟩
      case round =>
        clear hB hgb hown
        obtain ⟨i, gb, c, hi, rfl, rfl, rfl, hB, hgb, hown⟩ := hrel
        by_cases hlt : i < m
        · obtain rfl := hA' (by omega)
          clear hA'
          have hz : (i : Int) < (m : Int) := by omega
          have hRx := hR'.keep hB
          have c1 := hRx.first i hlt
          have c2 := hRx.last i hlt
          clear hRx
          go_wp2_with (at_builtin; refine wpList_append_pair _ rfl _ _ rfl w0.heap.size gb (n + i) c _ rfl (hown.alloc _) wr.heap.size (F' i) (L' i) rfl (heap_alloc_new wr _) (by omega) (by have := hB.size; simp; omega) ?_; intro g' c' w1 hown1 hgrow)
          go_roundg (m - (i + 1))
          case measure => go_light; omega
          case rel =>
            go_light
            refine ⟨i + 1, g', c', by omega, rfl, by go_num, rfl, Below.append hB _ hgrow hgb, (hown1.lt g' rfl).1, ?_⟩
            rw [← Nat.add_assoc, flatR, glue_ge, glue_ge]
            exact hown1
        · have e : m = i := by omega
          subst e
          have hRj := owns_ranges hown
          clear hlt hi hown
          go_wp2_with fail
          refine (buildRanges_any (some ⟨gb, 0, none⟩) gb 0 (n + m) c _ _ _ (by omega) (fun _ => rfl) (fun h => by cases h) hRj).mono ?_
          rintro e w2 ⟨B1, g1, rfl, hB1, hb2, hR1⟩
          go_wp2_with fail
          refine (zznewest_any B1 g1 (n + m) _ (by omega) hB1).mono ?_
          rintro e w3 ⟨C1, rfl, hC1, rfl⟩
          go_wp2_with fail
          refine (buildRanges_any A' b' off' m cap' F' L' _ (by omega) hA' hnil (hR'.keep (below2 hB hb2))).mono ?_
          rintro e w4 ⟨B2, g2, rfl, hB2, hb4, hR2⟩
          go_wp2_with fail
          refine (zznewest_any B2 g2 m _ (by omega) hB2).mono ?_
          rintro e w5 ⟨C2, rfl, hC2, rfl⟩
          have hR1 := hR1.keep hb4
          have hRj := (hRj.keep hb2).keep hb4
          have hRb := (hR'.keep (below2 hB hb2)).keep hb4
          have hB5 := below2 (below2 hB hb2) hb4
          have hd1 := hR1.drop (k := n + m - keep (n + m))
          have hd2 := hR2.drop (k := m - keep m)
          have ek1 : n + m - (n + m - keep (n + m)) = keep (n + m) := by unfold keep; omega
          have ek2 : m - (m - keep m) = keep m := by unfold keep; omega
          rw [ek1, Nat.zero_add] at hd1
          rw [ek2, Nat.zero_add] at hd2
          clear ek1 ek2 hb2 hb4 hR1 hR2 hB1 hB2
          have hk1 : keep m ≤ keep (n + m) := by unfold keep; omega
          have hk2 : keep (n + m) ≤ n + m := by unfold keep; omega
          have hk3 : keep m ≤ m := by unfold keep; omega
          go_wp2_with fail
          refine (isNewest_any C1 (some ⟨gb, 0, none⟩) g1 _ _ gb 0 (n + m) c _ _ _ (by omega) hC1 hd1 (fun _ => rfl) hRj).mono ?_
          rintro e w6 ⟨rfl, hb6⟩
          go_wp2_with fail
          refine (isNewest_any C2 A' g2 _ _ b' off' m cap' F' L' _ (by omega) hC2 (hd2.keep hb6) hA' (hRb.keep hb6)).mono ?_
          rintro e w7 ⟨rfl, hb7⟩
          have hB7 := below2 (below2 hB5 hb6) hb7
          have he1 := (hd1.keep hb6).keep hb7
          have he2 := (hd2.keep hb6).keep hb7
          clear hd1 hd2 hRj hRb hB5 hb6 hb7 hB
          go_wp2_with fail
          go_loopg [10] (keep m) (fun g x wx => ∃ i : Nat, i ≤ keep m ∧ g = keep m - i ∧ x = .int .i64 i ∧ Below w0.heap.size w0 wx ∧ Below w7.heap.size w7 wx)
          case atStart => exact ⟨0, Nat.zero_le _, rfl, rfl, hB7, Below.refl _ _⟩
          case round =>
            clear hB7
            obtain ⟨i, hi, rfl, rfl, hBx, hBy⟩ := hrel
            by_cases hlt : i < keep m
            · have hz : (i : Int) < (keep m : Int) := by omega
              go_wp2_with fail
              rw [show ((keep (n + m) : Int) - (keep m : Int) + (i : Int)) = ((keep (n + m) - keep m + i : Nat) : Int) by omega]
              refine (sameRange_any C1 C2 g1 _ (keep (n + m)) _ g2 _ (keep m) _ _ _ _ _ (keep (n + m) - keep m + i) i _ (by omega) (by omega) hC1 (he1.keep hBy) (by omega) hC2 (he2.keep hBy) hlt (by simp only [beq_iff_eq]; rw [show n + m - keep (n + m) + (keep (n + m) - keep m + i) = n + (m - keep m + i) by omega]; exact glue_ge) (by simp only [beq_iff_eq]; rw [show n + m - keep (n + m) + (keep (n + m) - keep m + i) = n + (m - keep m + i) by omega]; exact glue_ge)).mono ?_
              rintro e w8 ⟨rfl, hb8⟩
              go_wp2_with fail
              go_roundg (keep m - (i + 1))
              case measure => go_light; omega
              case rel => go_light; exact ⟨i + 1, by omega, rfl, by go_num, below2 hBx hb8, below2 hBy hb8⟩
            · go_wp2_with fail
              go_ret
              exact ⟨rfl, hBx⟩

end Go.Proofs.Qxb6616089a
