/-
  The plain law: the map that newACRouter fills, read by lp and dc.
-/
import Derived.Test.Qxb6615834aDist
import Derived.Maps.OwnSet
namespace Go.Proofs.Qxb6615834a
open Go.RowKit Go.Maps

theorem bytes_same {a b : ByteArray} : (a.toList == b.toList) = true ↔ a.data.toList = b.data.toList := by
  rw [ByteArray.toList_eq, ByteArray.toList_eq]; simp

theorem bytes_same' (a b : ByteArray) : (a.toList == b.toList) = decide (a.data.toList = b.data.toList) := by
  rw [ByteArray.toList_eq, ByteArray.toList_eq]
  exact Bool.eq_iff_iff.2 (by simp)

def pairD (c i : Nat) : DataW Unit := .agg [.lit (.int .i64 c), .lit (.int .i64 i)]
def putP (D : DataW Unit) (s : ByteArray) (c i : Nat) : DataW Unit := D.put (.string s.data.toList) (pairD c i)
def mapI (S : Nat → Nat → ByteArray) (c : Nat) (D : DataW Unit) : Nat → DataW Unit
  | 0 => D
  | j + 1 => putP (mapI S c D j) (S c j) c j
def mapA (S : Nat → Nat → ByteArray) (RL : Nat → Nat) : Nat → DataW Unit
  | 0 => .map []
  | c + 1 => mapI S c (mapA S RL c) (RL c)

/-! ### the entries in a row -/
def fI (S : Nat → Nat → ByteArray) (c : Nat) : Nat → List (ByteArray × Nat × Nat)
  | 0 => []
  | j + 1 => fI S c j ++ [(S c j, c, j)]
def fA (S : Nat → Nat → ByteArray) (RL : Nat → Nat) : Nat → List (ByteArray × Nat × Nat)
  | 0 => []
  | c + 1 => fA S RL c ++ fI S c (RL c)
def stepL (s : ByteArray) (acc : Option (Nat × Nat)) (e : ByteArray × Nat × Nat) : Option (Nat × Nat) := if (e.1.toList == s.toList) = true then some e.2 else acc
def lastL (L : List (ByteArray × Nat × Nat)) (s : ByteArray) : Option (Nat × Nat) := L.foldl (stepL s) none
def mapL (L : List (ByteArray × Nat × Nat)) : DataW Unit := L.foldl (fun D e => putP D e.1 e.2.1 e.2.2) (.map [])

theorem lpI_fold (S : Nat → Nat → ByteArray) (s : ByteArray) (c : Nat) (acc : Option (Nat × Nat)) : ∀ j, lpI S s c acc j = (fI S c j).foldl (stepL s) acc
  | 0 => rfl
  | j + 1 => by simp only [lpI, fI, List.foldl_append, List.foldl_cons, List.foldl_nil, lpI_fold S s c acc j, stepL]
theorem lp_last (S : Nat → Nat → ByteArray) (RL : Nat → Nat) (s : ByteArray) : ∀ n, lp S RL s n = lastL (fA S RL n) s
  | 0 => rfl
  | n + 1 => by simp only [lp, fA, lastL, List.foldl_append, lpI_fold, lp_last S RL s n]
theorem mapI_fold (S : Nat → Nat → ByteArray) (c : Nat) (D : DataW Unit) : ∀ j, mapI S c D j = (fI S c j).foldl (fun D e => putP D e.1 e.2.1 e.2.2) D
  | 0 => rfl
  | j + 1 => by simp only [mapI, fI, List.foldl_append, List.foldl_cons, List.foldl_nil, mapI_fold S c D j]
theorem mapA_fold (S : Nat → Nat → ByteArray) (RL : Nat → Nat) : ∀ n, mapA S RL n = mapL (fA S RL n)
  | 0 => rfl
  | n + 1 => by simp only [mapA, fA, mapL, List.foldl_append, mapI_fold, mapA_fold S RL n]
theorem dcI_count (S : Nat → Nat → ByteArray) (RL : Nat → Nat) (n c : Nat) : ∀ j, dcI S RL n c j = (fI S c j).countP (fun e => decide (lp S RL e.1 n = some e.2))
  | 0 => rfl
  | j + 1 => by simp [dcI, fI, List.countP_append, dcI_count S RL n c j, List.countP_cons]
theorem dc_count (S : Nat → Nat → ByteArray) (RL : Nat → Nat) (n : Nat) : ∀ m, dc S RL n m = (fA S RL m).countP (fun e => decide (lp S RL e.1 n = some e.2))
  | 0 => rfl
  | m + 1 => by simp only [dc, fA, List.countP_append, dc_count S RL n m, dcI_count]

theorem fI_mem {S : Nat → Nat → ByteArray} {c : Nat} : ∀ {j : Nat} {e : ByteArray × Nat × Nat}, e ∈ fI S c j → e.2.1 = c ∧ e.2.2 < j ∧ e.1 = S c e.2.2
  | j + 1, e, h => by
    rw [fI, List.mem_append] at h
    rcases h with h | h
    · have := fI_mem h; exact ⟨this.1, by omega, this.2.2⟩
    · simp at h; subst h; exact ⟨rfl, Nat.lt_succ_self _, rfl⟩
theorem fA_mem {S : Nat → Nat → ByteArray} {RL : Nat → Nat} : ∀ {m : Nat} {e : ByteArray × Nat × Nat}, e ∈ fA S RL m → e.2.1 < m ∧ e.2.2 < RL e.2.1 ∧ e.1 = S e.2.1 e.2.2
  | m + 1, e, h => by
    rw [fA, List.mem_append] at h
    rcases h with h | h
    · have := fA_mem h; exact ⟨by omega, this.2⟩
    · obtain ⟨h1, h2, h3⟩ := fI_mem h; rw [h1]; exact ⟨Nat.lt_succ_self _, h2, h3⟩

def Apart (L : List (ByteArray × Nat × Nat)) : Prop := L.Pairwise (fun a b => a.2 ≠ b.2)
theorem fI_apart (S : Nat → Nat → ByteArray) (c : Nat) : ∀ j, Apart (fI S c j)
  | 0 => List.Pairwise.nil
  | j + 1 => by
    unfold Apart fI
    refine List.pairwise_append.2 ⟨fI_apart S c j, List.pairwise_singleton _ _, fun a ha b hb => ?_⟩
    simp at hb; subst hb
    have := fI_mem ha
    exact fun e => by have := congrArg Prod.snd e; simp at this; omega
theorem fA_apart (S : Nat → Nat → ByteArray) (RL : Nat → Nat) : ∀ m, Apart (fA S RL m)
  | 0 => List.Pairwise.nil
  | m + 1 => by
    unfold Apart fA
    refine List.pairwise_append.2 ⟨fA_apart S RL m, fI_apart S m _, fun a ha b hb => ?_⟩
    have h1 := fA_mem ha
    have h2 := fI_mem hb
    exact fun e => by have := congrArg Prod.fst e; omega

/-! ### last, has, at -/
theorem lastL_snoc (L : List (ByteArray × Nat × Nat)) (e : ByteArray × Nat × Nat) (s : ByteArray) : lastL (L ++ [e]) s = if (e.1.toList == s.toList) = true then some e.2 else lastL L s := by
  simp [lastL, List.foldl_append, stepL]
theorem mapL_snoc (L : List (ByteArray × Nat × Nat)) (e : ByteArray × Nat × Nat) : mapL (L ++ [e]) = putP (mapL L) e.1 e.2.1 e.2.2 := by
  simp [mapL, List.foldl_append]
theorem snoc_ind {α : Type} {p : List α → Prop} (h0 : p []) (h1 : ∀ l a, p l → p (l ++ [a])) (l : List α) : p l := by
  have : ∀ r : List α, p r.reverse := fun r => by
    induction r with
    | nil => exact h0
    | cons a r ih => rw [List.reverse_cons]; exact h1 _ _ ih
  have h := this l.reverse
  rwa [List.reverse_reverse] at h

theorem keyLit (l : List UInt8) : WideAt.IsKeyLit (.string l) := by simp [WideAt.IsKeyLit]
theorem tidy_mapL (L : List (ByteArray × Nat × Nat)) : Tidy (mapL L) := by
  refine snoc_ind (p := fun L => Tidy (mapL L)) tidy_empty (fun l a ih => ?_) L
  rw [mapL_snoc]
  exact ih.put (keyLit _) _

theorem has_mapL (L : List (ByteArray × Nat × Nat)) (s : ByteArray) : Maps.has (mapL L) (.string s.data.toList) = (lastL L s).isSome := by
  refine snoc_ind (p := fun L => Maps.has (mapL L) (.string s.data.toList) = (lastL L s).isSome) rfl (fun l a ih => ?_) L
  rw [mapL_snoc, lastL_snoc]
  by_cases h : a.1.data.toList = s.data.toList
  · rw [if_pos (bytes_same.2 h)]
    unfold putP
    rw [h, has_put_same (tidy_mapL l).isMap (keyLit _)]
    rfl
  · rw [if_neg (fun hh => h (bytes_same.1 hh))]
    unfold putP
    rw [has_put_other (fun e => h (Lit.string.inj e).symm), ih]

theorem at_mapL (L : List (ByteArray × Nat × Nat)) (s : ByteArray) : (mapL L).atKey (.string s.data.toList) (pairD 0 0) = pairD (fstOf (lastL L s)) (sndOf (lastL L s)) := by
  refine snoc_ind (p := fun L => (mapL L).atKey (.string s.data.toList) (pairD 0 0) = pairD (fstOf (lastL L s)) (sndOf (lastL L s))) rfl (fun l a ih => ?_) L
  rw [mapL_snoc, lastL_snoc]
  by_cases h : a.1.data.toList = s.data.toList
  · rw [if_pos (bytes_same.2 h)]
    unfold putP
    rw [h, atKey_put_same (tidy_mapL l).isMap (keyLit _)]
    rfl
  · rw [if_neg (fun hh => h (bytes_same.1 hh))]
    unfold putP
    rw [atKey_put_other (fun e => h (Lit.string.inj e).symm), ih]

/-! ### how many -/
theorem lastL_congr {a b : ByteArray} (h : (a.toList == b.toList) = true) (L : List (ByteArray × Nat × Nat)) : lastL L a = lastL L b := by
  have e : a.toList = b.toList := by simpa using h
  unfold lastL
  congr 1
  funext acc x
  simp [stepL, e]
theorem lastL_mem {L : List (ByteArray × Nat × Nat)} {s : ByteArray} {t : Nat × Nat} : lastL L s = some t → ∃ x ∈ L, x.2 = t ∧ (x.1.toList == s.toList) = true := by
  refine snoc_ind (p := fun L => lastL L s = some t → ∃ x ∈ L, x.2 = t ∧ (x.1.toList == s.toList) = true) (fun h => by cases h) (fun l a ih h => ?_) L
  rw [lastL_snoc] at h
  by_cases hh : (a.1.toList == s.toList) = true
  · rw [if_pos hh] at h
    exact ⟨a, by simp, Option.some.inj h, hh⟩
  · rw [if_neg hh] at h
    obtain ⟨x, hx, r⟩ := ih h
    exact ⟨x, by simp [hx], r⟩

theorem count_one {L : List (ByteArray × Nat × Nat)} {p : ByteArray × Nat × Nat → Bool} {t : Nat × Nat} (hA : Apart L) {x0 : ByteArray × Nat × Nat} (hx : x0 ∈ L) (ht : x0.2 = t) (hp : p x0 = true) :
    L.countP (fun x => p x && decide (x.2 = t)) = 1 := by
  induction L with
  | nil => cases hx
  | cons y r ih =>
    obtain ⟨h1, h2⟩ := List.pairwise_cons.1 hA
    rw [List.countP_cons]
    rcases List.mem_cons.1 hx with e | hx
    · subst e
      have : r.countP (fun x => p x && decide (x.2 = t)) = 0 := List.countP_eq_zero.2 (fun z hz => by
        have := h1 z hz
        simp
        intro _ e
        exact this (by rw [ht, e]))
      rw [this]
      simp [hp, ht]
    · rw [ih h2 hx]
      have : y.2 ≠ t := fun e => h1 x0 hx (by rw [e, ht])
      simp [this]

theorem countP_split {α : Type} (p q : α → Bool) : ∀ l : List α, l.countP q = l.countP (fun x => (!p x) && q x) + l.countP (fun x => p x && q x)
  | [] => rfl
  | x :: l => by
    simp only [List.countP_cons, countP_split p q l]
    cases p x <;> cases q x <;> simp <;> omega

theorem size_mapL (L : List (ByteArray × Nat × Nat)) : Apart L → Maps.size (mapL L) = L.countP (fun e => decide (lastL L e.1 = some e.2)) := by
  refine snoc_ind (p := fun L => Apart L → Maps.size (mapL L) = L.countP (fun e => decide (lastL L e.1 = some e.2))) (fun _ => rfl) (fun l a ih hA => ?_) L
  obtain ⟨hl, _, hne⟩ := List.pairwise_append.1 hA
  rw [mapL_snoc]
  unfold putP
  rw [size_put (tidy_mapL l), has_mapL, ih hl, List.countP_append]
  have e1 : [a].countP (fun e => decide (lastL (l ++ [a]) e.1 = some e.2)) = 1 := by
    rw [List.countP_cons, lastL_snoc]; simp
  rw [e1]
  have e2 : l.countP (fun e => decide (lastL (l ++ [a]) e.1 = some e.2)) = l.countP (fun x => (!(a.1.toList == x.1.toList)) && decide (lastL l x.1 = some x.2)) := by
    refine List.countP_congr (fun x hx => ?_)
    have hax := hne x hx a (by simp)
    rw [lastL_snoc]
    by_cases hh : (a.1.toList == x.1.toList) = true
    · rw [if_pos hh, hh]
      simp
      exact fun e => hax e.symm
    · rw [if_neg hh]
      simp only [Bool.not_eq_true] at hh
      rw [hh]
      simp
  rw [e2, countP_split (fun x => a.1.toList == x.1.toList) (fun e => decide (lastL l e.1 = some e.2)) l]
  cases hlast : lastL l a.1 with
  | none =>
    have : l.countP (fun x => (a.1.toList == x.1.toList) && decide (lastL l x.1 = some x.2)) = 0 := List.countP_eq_zero.2 (fun z hz => by
      simp only [Bool.and_eq_true, not_and]
      intro hh
      rw [← lastL_congr hh l, hlast]
      simp)
    rw [this]
    simp
  | some t =>
    obtain ⟨x0, hx, ht, hs⟩ := lastL_mem hlast
    have : l.countP (fun x => (a.1.toList == x.1.toList) && decide (lastL l x.1 = some x.2)) = 1 := by
      rw [← count_one (p := fun x => a.1.toList == x.1.toList) hl hx ht (by rw [bytes_same']; rw [bytes_same'] at hs; simpa [eq_comm] using hs)]
      refine List.countP_congr (fun z hz => ?_)
      by_cases hh : (a.1.toList == z.1.toList) = true
      · rw [← lastL_congr hh l, hlast, hh]
        simp [eq_comm]
      · simp only [Bool.not_eq_true] at hh
        rw [hh]
        simp
    rw [this]
    simp

/-! ### the three readings, in the walks' own words -/
theorem has_mapA (S : Nat → Nat → ByteArray) (RL : Nat → Nat) (n : Nat) (s : ByteArray) : Maps.has (mapA S RL n) (.string s.data.toList) = (lp S RL s n).isSome := by
  rw [mapA_fold, has_mapL, lp_last]
theorem at_mapA (S : Nat → Nat → ByteArray) (RL : Nat → Nat) (n : Nat) (s : ByteArray) : (mapA S RL n).atKey (.string s.data.toList) (pairD 0 0) = pairD (fstOf (lp S RL s n)) (sndOf (lp S RL s n)) := by
  rw [mapA_fold, at_mapL, lp_last]
theorem size_mapA (S : Nat → Nat → ByteArray) (RL : Nat → Nat) (n : Nat) : Maps.size (mapA S RL n) = dc S RL n n := by
  rw [mapA_fold, size_mapL _ (fA_apart S RL n), dc_count]
  simp only [lp_last]

/-! ### what lp answers -/
theorem lp_spec {S : Nat → Nat → ByteArray} {RL : Nat → Nat} {n : Nat} {s : ByteArray} {t : Nat × Nat} (h : lp S RL s n = some t) : t.1 < n ∧ t.2 < RL t.1 ∧ (S t.1 t.2).data.toList = s.data.toList := by
  rw [lp_last] at h
  obtain ⟨x, hx, rfl, hs⟩ := lastL_mem h
  obtain ⟨h1, h2, h3⟩ := fA_mem hx
  exact ⟨h1, h2, by rw [← h3]; exact bytes_same.1 hs⟩

theorem lpI_shift (S : Nat → Nat → ByteArray) (s : ByteArray) (k c : Nat) (acc acc' a0 : Option (Nat × Nat)) (h : acc = match acc' with | some t => some (k + t.1, t.2) | none => a0) :
    ∀ j, lpI S s (k + c) acc j = match lpI (fun x => S (k + x)) s c acc' j with | some t => some (k + t.1, t.2) | none => a0
  | 0 => h
  | j + 1 => by
    unfold lpI
    by_cases hh : ((S (k + c) j).toList == s.toList) = true
    · rw [if_pos hh, if_pos hh]
    · rw [if_neg hh, if_neg hh]
      exact lpI_shift S s k c acc acc' a0 h j

/-- at any cut -/
theorem lp_cut (S : Nat → Nat → ByteArray) (RL : Nat → Nat) (s : ByteArray) (k : Nat) : ∀ m, lp S RL s (k + m) = match lp (fun x => S (k + x)) (fun x => RL (k + x)) s m with | some t => some (k + t.1, t.2) | none => lp S RL s k
  | 0 => rfl
  | m + 1 => by
    show lpI S s (k + m) (lp S RL s (k + m)) (RL (k + m)) = _
    exact lpI_shift S s k m _ _ _ (lp_cut S RL s k m) _

end Go.Proofs.Qxb6615834a
