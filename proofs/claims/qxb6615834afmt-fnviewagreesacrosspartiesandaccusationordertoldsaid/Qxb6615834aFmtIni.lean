/-
  Plain: the first counts, pair by pair; bounds on the work list.
-/
import Derived.Test.Qxb6615834aFmtZPlain
namespace Go.Proofs.Qxb6615834aFmt

/-- The first count at (a, y). -/
def iniStep (G : Nat → Nat → Bool) (n h a : Nat) (st : (Nat → Int) × List (Nat × Nat)) (y : Nat) : (Nat → Int) × List (Nat × Nat) :=
  if y ≤ a then st else (putI st.1 (a * n + y) (comm G n a y : Int), if comm G n a y < h then st.2 ++ [(a, y)] else st.2)

def iniRun (G : Nat → Nat → Bool) (n h a : Nat) (st : (Nat → Int) × List (Nat × Nat)) (ys : List Nat) : (Nat → Int) × List (Nat × Nat) := ys.foldl (iniStep G n h a) st

theorem iniRun_snoc (G : Nat → Nat → Bool) (n h a : Nat) (st : (Nat → Int) × List (Nat × Nat)) (ys : List Nat) (y : Nat) : iniRun G n h a st (ys ++ [y]) = iniStep G n h a (iniRun G n h a st ys) y := by simp [iniRun]

theorem iniStep_len (G : Nat → Nat → Bool) (n h a : Nat) (st : (Nat → Int) × List (Nat × Nat)) (y : Nat) : (iniStep G n h a st y).2.length ≤ st.2.length + 1 := by
  unfold iniStep
  split
  · omega
  · split <;> simp

theorem iniRun_len (G : Nat → Nat → Bool) (n h a : Nat) : ∀ (ys : List Nat) (st : (Nat → Int) × List (Nat × Nat)), (iniRun G n h a st ys).2.length ≤ st.2.length + ys.length
  | [], st => Nat.le_refl _
  | y :: ys, st => by
    have h1 := iniRun_len G n h a ys (iniStep G n h a st y)
    have h2 := iniStep_len G n h a st y
    have e : iniRun G n h a st (y :: ys) = iniRun G n h a (iniStep G n h a st y) ys := rfl
    rw [e, List.length_cons]
    omega

/-- The rows below a are counted, and of row a the parties in pre. -/
structure Ini (G : Nat → Nat → Bool) (n h : Nat) (Cf : Nat → Int) (fl : List (Nat × Nat)) (a : Nat) (pre : List Nat) : Prop where
  cf : ∀ x y, (x < a ∨ (x = a ∧ y ∈ pre)) → x < y → y < n → G x y = true → Cf (x * n + y) = (comm G n x y : Int)
  fls : ∀ x y, (x, y) ∈ fl ↔ (x < a ∨ (x = a ∧ y ∈ pre)) ∧ x < y ∧ y < n ∧ G x y = true ∧ comm G n x y < h
  nd : fl.Nodup

theorem Ini.step {G : Nat → Nat → Bool} {n h a y : Nat} {st : (Nat → Int) × List (Nat × Nat)} {pre : List Nat} (hI : Ini G n h st.1 st.2 a pre) (hy : y ∉ pre) (hyn : y < n) (hG : G a y = true) :
    Ini G n h (iniStep G n h a st y).1 (iniStep G n h a st y).2 a (pre ++ [y]) := by
  obtain ⟨Cf, fl⟩ := st
  by_cases hle : y ≤ a
  · have e : iniStep G n h a (Cf, fl) y = (Cf, fl) := by simp [iniStep, hle]
    rw [e]
    refine ⟨fun x z hv hxz hz hGz => hI.cf x z ?_ hxz hz hGz, fun x z => ?_, hI.nd⟩
    · rcases hv with h1 | ⟨h1, h2⟩
      · exact Or.inl h1
      · rcases List.mem_append.1 h2 with h3 | h3
        · exact Or.inr ⟨h1, h3⟩
        · have : z = y := by simpa using h3
          omega
    · rw [hI.fls]
      constructor
      · rintro ⟨h1, h2⟩
        exact ⟨h1.imp id fun h3 => ⟨h3.1, by simp [h3.2]⟩, h2⟩
      · rintro ⟨h1, h2⟩
        refine ⟨h1.imp id fun h3 => ⟨h3.1, ?_⟩, h2⟩
        rcases List.mem_append.1 h3.2 with h4 | h4
        · exact h4
        · have : z = y := by simpa using h4
          omega
  · have e : iniStep G n h a (Cf, fl) y = (putI Cf (a * n + y) (comm G n a y : Int), if comm G n a y < h then fl ++ [(a, y)] else fl) := by simp [iniStep, hle]
    rw [e]
    have hno : (a, y) ∉ fl := fun hm => by
      have h1 := ((hI.fls a y).1 hm).1
      rcases h1 with h2 | h2
      · omega
      · exact hy h2.2
    refine ⟨fun x z hv hxz hz hGz => ?_, fun x z => ?_, ?_⟩
    · show putI Cf (a * n + y) (comm G n a y : Int) (x * n + z) = _
      unfold putI
      by_cases e2 : x * n + z = a * n + y
      · obtain ⟨rfl, rfl⟩ := idx_inj hz hyn e2
        rw [if_pos rfl]
      · rw [if_neg e2]
        refine hI.cf x z ?_ hxz hz hGz
        rcases hv with h1 | ⟨h1, h2⟩
        · exact Or.inl h1
        · rcases List.mem_append.1 h2 with h3 | h3
          · exact Or.inr ⟨h1, h3⟩
          · have : z = y := by simpa using h3
            subst h1
            subst this
            exact absurd rfl e2
    · have hv : (x < a ∨ (x = a ∧ z ∈ pre ++ [y])) ↔ (x < a ∨ (x = a ∧ z ∈ pre)) ∨ (x = a ∧ z = y) := by
        rw [List.mem_append, List.mem_singleton]
        constructor
        · rintro (h1 | ⟨h1, h2 | h2⟩)
          · exact Or.inl (Or.inl h1)
          · exact Or.inl (Or.inr ⟨h1, h2⟩)
          · exact Or.inr ⟨h1, h2⟩
        · rintro ((h1 | ⟨h1, h2⟩) | ⟨h1, h2⟩)
          · exact Or.inl h1
          · exact Or.inr ⟨h1, Or.inl h2⟩
          · exact Or.inr ⟨h1, Or.inr h2⟩
      rw [hv]
      show (x, z) ∈ (if comm G n a y < h then fl ++ [(a, y)] else fl) ↔ _
      by_cases hc : comm G n a y < h
      · rw [if_pos hc, List.mem_append, hI.fls, List.mem_singleton, Prod.mk.injEq]
        constructor
        · rintro (⟨h1, h2⟩ | ⟨rfl, rfl⟩)
          · exact ⟨Or.inl h1, h2⟩
          · exact ⟨Or.inr ⟨rfl, rfl⟩, by omega, hyn, hG, hc⟩
        · rintro ⟨h1 | ⟨rfl, rfl⟩, h2⟩
          · exact Or.inl ⟨h1, h2⟩
          · exact Or.inr ⟨rfl, rfl⟩
      · rw [if_neg hc, hI.fls]
        constructor
        · rintro ⟨h1, h2⟩
          exact ⟨Or.inl h1, h2⟩
        · rintro ⟨h1 | ⟨rfl, rfl⟩, h2⟩
          · exact ⟨h1, h2⟩
          · exact absurd h2.2.2.2 hc
    · show (if comm G n a y < h then fl ++ [(a, y)] else fl).Nodup
      split
      · rw [List.nodup_append]
        refine ⟨hI.nd, by simp, fun p hp q hq e => ?_⟩
        have : q = (a, y) := by simpa using hq
        subst e
        subst this
        exact hno hp
      · exact hI.nd

theorem Ini.run {G : Nat → Nat → Bool} {n h a : Nat} : ∀ (ys : List Nat) (st : (Nat → Int) × List (Nat × Nat)) (pre : List Nat), Ini G n h st.1 st.2 a pre → (pre ++ ys).Nodup → (∀ y ∈ ys, y < n ∧ G a y = true) →
    Ini G n h (iniRun G n h a st ys).1 (iniRun G n h a st ys).2 a (pre ++ ys)
  | [], st, pre, hI, _, _ => by rw [List.append_nil]; exact hI
  | y :: ys, st, pre, hI, hnd, hy => by
    have e : iniRun G n h a st (y :: ys) = iniRun G n h a (iniStep G n h a st y) ys := rfl
    have e2 : pre ++ y :: ys = (pre ++ [y]) ++ ys := by simp
    have hno : y ∉ pre := fun hm => by
      have := (List.nodup_append.1 hnd).2.2 y hm y (by simp)
      exact this rfl
    rw [e, e2]
    rw [e2] at hnd
    exact Ini.run ys _ _ (hI.step hno (hy y (by simp)).1 (hy y (by simp)).2) hnd (fun z hz => hy z (by simp [hz]))

/-- Row a is counted. -/
theorem Ini.round {G : Nat → Nat → Bool} {n h a : Nat} {Cf : Nat → Int} {fl : List (Nat × Nat)} (hI : Ini G n h Cf fl a []) (ys : List Nat) (hnd : ys.Nodup) (hys : ∀ y, y ∈ ys ↔ G a y = true) (hlt : ∀ y, G a y = true → y < n) :
    Ini G n h (iniRun G n h a (Cf, fl) ys).1 (iniRun G n h a (Cf, fl) ys).2 (a + 1) [] := by
  have h1 := Ini.run ys (Cf, fl) [] hI (by simpa using hnd) (fun y hy => ⟨hlt y ((hys y).1 hy), (hys y).1 hy⟩)
  rw [List.nil_append] at h1
  refine ⟨fun x y hv hxy hy hG => h1.cf x y ?_ hxy hy hG, fun x y => ?_, h1.nd⟩
  · by_cases e : x = a
    · subst e
      exact Or.inr ⟨rfl, (hys y).2 hG⟩
    · rcases hv with h2 | h2
      · exact Or.inl (by omega)
      · simp at h2
  · rw [h1.fls]
    constructor
    · rintro ⟨h2, h3⟩
      exact ⟨Or.inl (by omega), h3⟩
    · rintro ⟨h2, h3⟩
      refine ⟨?_, h3⟩
      by_cases e : x = a
      · subst e
        exact Or.inr ⟨rfl, (hys y).2 h3.2.2.1⟩
      · rcases h2 with h4 | h4
        · exact Or.inl (by omega)
        · simp at h4

theorem Ini.start (G : Nat → Nat → Bool) (n h : Nat) (Cf : Nat → Int) : Ini G n h Cf [] 0 [] :=
  ⟨fun x y hv => by simp at hv, fun x y => by simp, List.nodup_nil⟩

theorem Ini.ends {G : Nat → Nat → Bool} {n h a : Nat} {Cf : Nat → Int} {fl : List (Nat × Nat)} (hI : Ini G n h Cf fl a []) (ha : n ≤ a) (hG : Gr G n) : PInv G G n h Cf fl [] :=
  PInv.start hG (fun x y hxy hy hg => hI.cf x y (Or.inl (by omega)) hxy hy hg) (fun x y => by
    rw [hI.fls]
    constructor
    · exact fun h => h.2
    · exact fun h => ⟨Or.inl (by omega), h⟩) hI.nd

/-! ### Bounds -/

/-- Pairs that are edges, none twice, are no more than the edges. -/
theorem len_edges {n : Nat} : ∀ (fl : List (Nat × Nat)) (N : Nat → Nat → Bool), fl.Nodup → (∀ p ∈ fl, p.1 < p.2 ∧ p.2 < n ∧ N p.1 p.2 = true) → fl.length ≤ edges N n
  | [], _, _, _ => Nat.zero_le _
  | p :: fl, N, hnd, h => by
    obtain ⟨h1, h2⟩ := List.nodup_cons.1 hnd
    obtain ⟨h3, h4, h5⟩ := h p (by simp)
    have h6 := edges_cut h3 h4 h5
    have ih := len_edges fl (cutN N p.1 p.2) h2 (fun q hq => by
      obtain ⟨a1, a2, a3⟩ := h q (by simp [hq])
      refine ⟨a1, a2, ?_⟩
      rw [cutN_at N (show p.1 ≠ p.2 by omega), if_neg, a3]
      rintro (⟨b1, b2⟩ | ⟨b1, b2⟩)
      · exact h1 (by have : q = p := Prod.ext b1 b2; exact this ▸ hq)
      · omega)
    rw [List.length_cons]
    omega

theorem lowRun_len (n h : Nat) : ∀ (ps : List (Nat × Nat)) (st : (Nat → Int) × List (Nat × Nat)), (lowRun n h st ps).2.length ≤ st.2.length + ps.length
  | [], st => Nat.le_refl _
  | p :: ps, st => by
    have h1 := lowRun_len n h ps (lowStep n h st p)
    have h2 : (lowStep n h st p).2.length ≤ st.2.length + 1 := by
      unfold lowStep lowF
      simp only
      split <;> simp
    have e : lowRun n h st (p :: ps) = lowRun n h (lowStep n h st p) ps := rfl
    rw [e, List.length_cons]
    omega

theorem lowRun_cf (n h : Nat) : ∀ (ps : List (Nat × Nat)) (st : (Nat → Int) × List (Nat × Nat)) (k : Nat), st.1 k - ps.length ≤ (lowRun n h st ps).1 k ∧ (lowRun n h st ps).1 k ≤ st.1 k
  | [], st, k => by simp [lowRun]
  | p :: ps, st, k => by
    have h1 := lowRun_cf n h ps (lowStep n h st p) k
    have h2 : st.1 k - 1 ≤ (lowStep n h st p).1 k ∧ (lowStep n h st p).1 k ≤ st.1 k := by
      unfold lowStep lowC
      simp only
      split
      · rename_i e
        rw [e]
        omega
      · omega
    have e : lowRun n h st (p :: ps) = lowRun n h (lowStep n h st p) ps := rfl
    rw [e, List.length_cons]
    omega

theorem lowPairs_snoc (a b : Nat) (cs : List Nat) (c : Nat) : lowPairs a b (cs ++ [c]) = lowPairs a b cs ++ [ordP a c] ++ [ordP b c] := by simp [lowPairs]
theorem lowPairs_length (a b : Nat) : ∀ cs : List Nat, (lowPairs a b cs).length = 2 * cs.length
  | [] => rfl
  | c :: cs => by
    have e : lowPairs a b (c :: cs) = ordP a c :: ordP b c :: lowPairs a b cs := rfl
    rw [e, List.length_cons, List.length_cons, lowPairs_length a b cs, List.length_cons]
    omega

theorem lowRun_snoc (n h : Nat) (st : (Nat → Int) × List (Nat × Nat)) (ps : List (Nat × Nat)) (p : Nat × Nat) : lowRun n h st (ps ++ [p]) = lowStep n h (lowRun n h st ps) p := by simp [lowRun]

theorem comm_le (N : Nat → Nat → Bool) (n x y : Nat) : comm N n x y ≤ n := cnt_le _ _

end Go.Proofs.Qxb6615834aFmt
