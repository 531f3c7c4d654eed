/-
  Plain: the work list's invariant, and one round.
-/
import Derived.Test.Qxb6615834aFmtPrune
namespace Go.Proofs.Qxb6615834aFmt

/-- G: the graph less the accused edges. N: what is left of it. -/
structure PInv (G N : Nat → Nat → Bool) (n h : Nat) (Cf : Nat → Int) (fl pr : List (Nat × Nat)) : Prop where
  gr : Gr N n
  sub : Sub N G n
  most : ∀ K, Gr K n → Sub K G n → Stable K n h → Sub K N n
  cf : ∀ x y, x < y → y < n → N x y = true → Cf (x * n + y) = (comm N n x y : Int)
  flIff : ∀ x y, x < y → y < n → N x y = true → ((x, y) ∈ fl ↔ comm N n x y < h)
  flEdge : ∀ p ∈ fl, p.1 < p.2 ∧ p.2 < n ∧ N p.1 p.2 = true
  flNodup : fl.Nodup
  prIff : ∀ x y, x < y → y < n → ((x, y) ∈ pr ↔ G x y = true ∧ N x y = false)
  prOk : ∀ p ∈ pr, p.1 < p.2 ∧ p.2 < n
  prNodup : pr.Nodup

theorem mem_lowPairs {a b x y : Nat} {cs : List Nat} (hxy : x < y) : (x, y) ∈ lowPairs a b cs ↔ ∃ c ∈ cs, ((a = x ∧ c = y) ∨ (a = y ∧ c = x)) ∨ ((b = x ∧ c = y) ∨ (b = y ∧ c = x)) := by
  unfold lowPairs
  rw [List.mem_flatMap]
  constructor
  · rintro ⟨c, hc, h⟩
    refine ⟨c, hc, ?_⟩
    rcases List.mem_cons.1 h with h | h
    · exact Or.inl ((ordP_eq hxy).1 h.symm)
    · rcases List.mem_cons.1 h with h | h
      · exact Or.inr ((ordP_eq hxy).1 h.symm)
      · cases h
  · rintro ⟨c, hc, h⟩
    refine ⟨c, hc, ?_⟩
    rcases h with h | h
    · rw [(ordP_eq hxy).2 h]
      simp
    · rw [(ordP_eq hxy).2 h]
      simp

theorem lowPairs_ok {a b n : Nat} {cs : List Nat} (ha : a < n) (hb : b < n) (hc : ∀ c ∈ cs, c < n ∧ c ≠ a ∧ c ≠ b) : ∀ p ∈ lowPairs a b cs, p.1 < p.2 ∧ p.2 < n := by
  intro p hp
  unfold lowPairs at hp
  rw [List.mem_flatMap] at hp
  obtain ⟨c, hcm, h⟩ := hp
  obtain ⟨h1, h2, h3⟩ := hc c hcm
  rcases List.mem_cons.1 h with rfl | h
  · unfold ordP
    split <;> simp <;> omega
  · rcases List.mem_cons.1 h with rfl | h
    · unfold ordP
      split <;> simp <;> omega
    · cases h

theorem lowPairs_nodup {a b : Nat} (hab : a ≠ b) : ∀ (cs : List Nat), cs.Nodup → (∀ c ∈ cs, c ≠ a ∧ c ≠ b) → (lowPairs a b cs).Nodup
  | [], _, _ => List.nodup_nil
  | c :: cs, hnd, hc => by
    obtain ⟨h1, h2⟩ := List.nodup_cons.1 hnd
    obtain ⟨hca, hcb⟩ := hc c (by simp)
    have ih := lowPairs_nodup hab cs h2 (fun d hd => hc d (by simp [hd]))
    have e : lowPairs a b (c :: cs) = ordP a c :: ordP b c :: lowPairs a b cs := rfl
    have hno : ∀ u, (u = a ∨ u = b) → ordP u c ∉ lowPairs a b cs := by
      intro u hu hm
      have hlt : (ordP u c).1 < (ordP u c).2 := by
        unfold ordP
        split <;> simp <;> omega
      obtain ⟨d, hd, h3⟩ := (mem_lowPairs (x := (ordP u c).1) (y := (ordP u c).2) hlt).1 hm
      obtain ⟨hda, hdb⟩ := hc d (by simp [hd])
      have hcd : c ≠ d := fun e => h1 (e ▸ hd)
      unfold ordP at h3
      split at h3 <;> simp at h3 <;> omega
    rw [e, List.nodup_cons, List.nodup_cons]
    refine ⟨fun hm => ?_, hno b (Or.inr rfl), ih⟩
    rcases List.mem_cons.1 hm with h3 | h3
    · unfold ordP at h3
      split at h3 <;> split at h3 <;> simp at h3 <;> omega
    · exact hno a (Or.inl rfl) h3

/-- What one cut does to the counts of the edges that are left. -/
theorem comm_cut {N : Nat → Nat → Bool} {n a b x y : Nat} {cs : List Nat} (hg : Gr N n) (hab : a < b) (hb : b < n) (he : N a b = true) (hcs : ∀ c, c ∈ cs ↔ both (cutN N a b a) (cutN N a b b) c = true) (hxy : x < y) (hy : y < n)
    (hN : cutN N a b x y = true) : comm (cutN N a b) n x y + (if (x, y) ∈ lowPairs a b cs then 1 else 0) = comm N n x y := by
  have hne : a ≠ b := by omega
  have hN' := hN
  rw [cutN_at N hne] at hN'
  have hnot : ¬ ((x = a ∧ y = b) ∨ (x = b ∧ y = a)) := fun e => by rw [if_pos e] at hN'; cases hN'
  rw [if_neg hnot] at hN'
  have hc : ∀ c, c < n → c ≠ a → c ≠ b → (c ∈ cs ↔ N a c = true ∧ N b c = true) := fun c _ h1 h2 => by
    rw [hcs, both, cutN_at N hne, cutN_at N hne, if_neg (by omega), if_neg (by omega), Bool.and_eq_true]
  have hxa : x < n := by omega
  have key : ∀ u c, (u = a ∨ u = b) → c < n → c ≠ a → c ≠ b → N u c = true → comm (cutN N a b) n u c + (if c ∈ cs then 1 else 0) = comm N n u c := by
    intro u c hu h1 h2 h3 h4
    rcases hu with rfl | rfl
    · have h5 := comm_left hg hne hb he h1 h2 h3
      have e : (c ∈ cs) ↔ N b c = true := by rw [hc c h1 h2 h3]; exact ⟨fun h => h.2, fun h => ⟨h4, h⟩⟩
      simp only [e]
      exact h5
    · have h5 := comm_right hg hne (by omega) hb he h1 h2 h3
      have e : (c ∈ cs) ↔ N a c = true := by rw [hc c h1 h2 h3]; exact ⟨fun h => h.1, fun h => ⟨h, h4⟩⟩
      simp only [e]
      exact h5
  have hm := mem_lowPairs (a := a) (b := b) (cs := cs) hxy
  by_cases hx : x = a ∨ x = b
  · have hya : y ≠ a := by omega
    have hyb : y ≠ b := by omega
    have h1 := key x y hx hy hya hyb hN'
    have e : (x, y) ∈ lowPairs a b cs ↔ y ∈ cs := by
      rw [hm]
      constructor
      · rintro ⟨c, hcm, h⟩
        have : c = y := by omega
        exact this ▸ hcm
      · intro h
        exact ⟨y, h, by omega⟩
    simp only [e]
    exact h1
  · by_cases hyy : y = a ∨ y = b
    · have hsym : N y x = true := by rw [hg.sym y x hy hxa]; exact hN'
      have h1 := key y x hyy hxa (by omega) (by omega) hsym
      rw [comm_sym (cutN N a b), comm_sym N] at h1
      have e : (x, y) ∈ lowPairs a b cs ↔ x ∈ cs := by
        rw [hm]
        constructor
        · rintro ⟨c, hcm, h⟩
          have : c = x := by omega
          exact this ▸ hcm
        · intro h
          exact ⟨x, h, by omega⟩
      simp only [e]
      exact h1
    · rw [comm_far N hne (by omega) (by omega) (by omega) (by omega), if_neg]
      · rfl
      · rw [hm]
        rintro ⟨c, _, h⟩
        omega

theorem PInv.round {G N : Nat → Nat → Bool} {n h a b : Nat} {Cf : Nat → Int} {fl pr : List (Nat × Nat)} (hI : PInv G N n h Cf (fl ++ [(a, b)]) pr) (cs : List Nat) (hcs : ∀ c, c ∈ cs ↔ both (cutN N a b a) (cutN N a b b) c = true) (hnd : cs.Nodup) :
    PInv G (cutN N a b) n h (lowRun n h (Cf, fl) (lowPairs a b cs)).1 (lowRun n h (Cf, fl) (lowPairs a b cs)).2 (pr ++ [(a, b)]) := by
  obtain ⟨hab, hb, he⟩ := hI.flEdge (a, b) (by simp)
  simp only at hab hb he
  have hne : a ≠ b := by omega
  have hfail := (hI.flIff a b hab hb he).1 (by simp)
  have hsub : Sub (cutN N a b) N n := Sub.cut hne
  have hc : ∀ c ∈ cs, c < n ∧ c ≠ a ∧ c ≠ b := fun c hcm => by
    have h1 := (hcs c).1 hcm
    rw [both, cutN_at N hne, cutN_at N hne, Bool.and_eq_true] at h1
    obtain ⟨h2, h3⟩ := h1
    refine ⟨?_, ?_, ?_⟩
    · by_cases e : (a = a ∧ c = b) ∨ (a = b ∧ c = a)
      · rw [if_pos e] at h2
        cases h2
      · rw [if_neg e] at h2
        exact hI.gr.lt a c h2
    · intro e
      rw [if_pos (by omega)] at h3
      cases h3
    · intro e
      rw [if_pos (by omega)] at h2
      cases h2
  have hok := lowPairs_ok (show a < n by omega) hb hc
  obtain ⟨r1, r2⟩ := lowRun_closed n h (lowPairs a b cs) Cf fl (lowPairs_nodup hne cs hnd (fun c hcm => (hc c hcm).2)) (fun p hp => (hok p hp).2)
  obtain ⟨hnd1, _, hdis⟩ := List.nodup_append.1 hI.flNodup
  have hnab : (a, b) ∉ fl := fun h => hdis _ h (a, b) (by simp) rfl
  -- an edge that is left is no (a, b)
  have hleft : ∀ x y, x < y → y < n → cutN N a b x y = true → N x y = true ∧ (x, y) ≠ (a, b) := fun x y hxy hy h => by
    refine ⟨hsub x y (by omega) hy h, fun e => ?_⟩
    simp only [Prod.mk.injEq] at e
    rw [cutN_at N hne, if_pos (Or.inl e)] at h
    cases h
  have hgc : Gr (cutN N a b) n := hI.gr.cut hne
  have hpe : ∀ p ∈ lowPairs a b cs, cutN N a b p.1 p.2 = true := fun p hp => by
    obtain ⟨h1, h2⟩ := hok p hp
    obtain ⟨c, hcm, h3⟩ := (mem_lowPairs (x := p.1) (y := p.2) h1).1 hp
    have h4 := (hcs c).1 hcm
    rw [both, Bool.and_eq_true] at h4
    rcases h3 with (⟨h5, h6⟩ | ⟨h5, h6⟩) | (⟨h5, h6⟩ | ⟨h5, h6⟩)
    · rw [← h5, ← h6]
      exact h4.1
    · rw [hgc.sym _ _ (by omega) h2, ← h5, ← h6]
      exact h4.1
    · rw [← h5, ← h6]
      exact h4.2
    · rw [hgc.sym _ _ (by omega) h2, ← h5, ← h6]
      exact h4.2
  have hmem : ∀ p, p ∈ (lowRun n h (Cf, fl) (lowPairs a b cs)).2 ↔ p ∈ fl ∨ (p ∈ lowPairs a b cs ∧ Cf (p.1 * n + p.2) = (h : Int)) := fun p => by
    rw [r2, List.mem_append, List.mem_filter]
    simp
  have hflE : ∀ p ∈ fl, p.1 < p.2 ∧ p.2 < n ∧ N p.1 p.2 = true := fun p hp => hI.flEdge p (by simp [hp])
  refine ⟨hgc, hsub.trans hI.sub, fun K g s st => (hI.most K g s st).past g st hab hb hfail, fun x y hxy hy hN => ?_, fun x y hxy hy hN => ?_, fun p hp => ?_, ?_, fun x y hxy hy => ?_, fun p hp => ?_, ?_⟩
  · have h1 := comm_cut hI.gr hab hb he hcs hxy hy hN
    have h2 := hI.cf x y hxy hy (hleft x y hxy hy hN).1
    rw [r1 x y hy, h2, ← h1]
    by_cases e : (x, y) ∈ lowPairs a b cs
    · simp [e]
    · simp [e]
  · have h1 := comm_cut hI.gr hab hb he hcs hxy hy hN
    obtain ⟨h3, h4⟩ := hleft x y hxy hy hN
    have h2 := hI.cf x y hxy hy h3
    have h5 := hI.flIff x y hxy hy h3
    rw [List.mem_append] at h5
    have h6 : (x, y) ∈ fl ↔ comm N n x y < h := by
      rw [← h5]
      exact ⟨Or.inl, fun h => h.elim id fun h => absurd (by simpa using h) h4⟩
    rw [hmem, h6]
    simp only [h2]
    by_cases e : (x, y) ∈ lowPairs a b cs
    · simp only [e, if_true, true_and] at h1 ⊢
      omega
    · simp only [e, if_false, false_and, or_false] at h1 ⊢
      omega
  · rcases (hmem p).1 hp with h1 | ⟨h1, _⟩
    · obtain ⟨h2, h3, h4⟩ := hflE p h1
      refine ⟨h2, h3, ?_⟩
      rw [cutN_at N hne, if_neg, h4]
      rintro (⟨h5, h6⟩ | ⟨h5, h6⟩)
      · exact hnab (by rw [← h5, ← h6]; exact h1)
      · omega
    · obtain ⟨h2, h3⟩ := hok p h1
      exact ⟨h2, h3, hpe p h1⟩
  · rw [r2, List.nodup_append]
    refine ⟨hnd1, (lowPairs_nodup hne cs hnd (fun c hcm => (hc c hcm).2)).filter _, fun p hp q hq e => ?_⟩
    subst e
    obtain ⟨h1, h2⟩ := List.mem_filter.1 hq
    obtain ⟨h3, h4, h5⟩ := hflE p hp
    have h6 := hI.cf p.1 p.2 h3 h4 h5
    have h7 := (hI.flIff p.1 p.2 h3 h4 h5).1 (by simp [hp])
    have h8 : Cf (p.1 * n + p.2) = (h : Int) := by simpa using h2
    omega
  · rw [List.mem_append, hI.prIff x y hxy hy, cutN_at N hne]
    have hG := hI.sub a b (by omega) hb he
    by_cases e : x = a ∧ y = b
    · rw [if_pos (Or.inl e)]
      obtain ⟨rfl, rfl⟩ := e
      simp [hG]
    · rw [if_neg (by omega)]
      have : ¬ (x, y) ∈ [(a, b)] := fun h => e (by simpa using h)
      simp [this]
  · rcases List.mem_append.1 hp with h1 | h1
    · exact hI.prOk p h1
    · have : p = (a, b) := by simpa using h1
      subst this
      exact ⟨hab, hb⟩
  · rw [List.nodup_append]
    refine ⟨hI.prNodup, by simp, fun p hp q hq e => ?_⟩
    have : q = (a, b) := by simpa using hq
    subst e
    subst this
    have := ((hI.prIff a b hab hb).1 hp).2
    rw [he] at this
    cases this

theorem PInv.ends {G N : Nat → Nat → Bool} {n h : Nat} {Cf : Nat → Int} {pr : List (Nat × Nat)} (hI : PInv G N n h Cf [] pr) : Core N G n h := by
  refine ⟨hI.gr, hI.sub, fun x y hxy hy hN => Nat.le_of_not_lt fun hlt => ?_, hI.most⟩
  have := (hI.flIff x y hxy hy hN).2 hlt
  cases this

/-- The work list at its start. -/
theorem PInv.start {G : Nat → Nat → Bool} {n h : Nat} {Cf : Nat → Int} {fl : List (Nat × Nat)} (hG : Gr G n) (hcf : ∀ x y, x < y → y < n → G x y = true → Cf (x * n + y) = (comm G n x y : Int))
    (hfl : ∀ x y, (x, y) ∈ fl ↔ x < y ∧ y < n ∧ G x y = true ∧ comm G n x y < h) (hnd : fl.Nodup) : PInv G G n h Cf fl [] := by
  refine ⟨hG, fun _ _ _ _ e => e, fun _ _ hs _ => hs, hcf, fun x y hxy hy hN => ?_, fun p hp => ?_, hnd, fun x y _ _ => ?_, fun p hp => ?_, List.nodup_nil⟩
  · rw [hfl]
    exact ⟨fun h => h.2.2.2, fun h => ⟨hxy, hy, hN, h⟩⟩
  · obtain ⟨h1, h2, h3, _⟩ := (hfl p.1 p.2).1 hp
    exact ⟨h1, h2, h3⟩
  · constructor
    · intro h
      cases h
    · rintro ⟨h1, h2⟩
      rw [h1] at h2
      cases h2
  · cases hp

end Go.Proofs.Qxb6615834aFmt
