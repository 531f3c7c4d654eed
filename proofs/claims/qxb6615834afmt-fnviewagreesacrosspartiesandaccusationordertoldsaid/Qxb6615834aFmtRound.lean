/-
  A region that draws its order, IN A ROUND of a range over a function: its operations only read (calls that only draw among them), but for a tail that every order comes to last.
-/
import Derived.Sort.BigQuietIn
import Derived.StillTail
import Derived.RangeFuncCalls
namespace Go.Proofs.Qxb6615834aFmt
open Go

section
variable {F : Fence} {n : Nat} {P : Program} {ops : Array Oper} {md : Region.Mode} {C : World → Prop}

/-! ### From no round into a round -/

theorem op_round (r : Nat) {o : Oper} (hd : ∀ c : Call, o.op ≠ .defer c) (hro : F.round = none) {a : Act} {w : World} {K : Act → World → Prop} {Q : Exit → Act → World → Prop}
    (h : o.wpIn F n P a w K Q) : o.wpIn (F.inRound r) n P a w K Q := by
  unfold Oper.wpIn at *
  rw [hro, Oper.semAt_none] at h
  rw [Fence.inRound_round, Oper.semAt_some r _ _ hd]
  exact h

theorem any_round (r : Nat) (hd : ∀ (i : Nat) (o : Oper), ops[i]? = some o → ∀ c : Call, o.op ≠ .defer c) (hro : F.round = none) {Q : Exit → Act → World → Prop} : ∀ (fuel : Nat) (listed : Array Bool) (a : Act) (w : World),
    wpAnyIn F n P md ops Q fuel listed a w → wpAnyIn (F.inRound r) n P md ops Q fuel listed a w
  | 0, _, _, _, h => h
  | fuel + 1, listed, a, w, h => by
    refine ⟨h.1, fun i hi => ?_⟩
    have h1 := wpOpIn_mono (fun a' w' h' => any_round r hd hro fuel (listed.setIfInBounds i true) a' w' h') (h.2 i hi)
    unfold wpOpIn at *
    cases ho : ops[i]? with
    | none => simpa [ho] using h1
    | some o =>
      simp only [ho] at h1 ⊢
      by_cases hw : Region.wanted o (yielded ops a.tmps) = true
      · simp only [hw, if_true] at h1 ⊢
        exact op_round r (hd i o ho) hro h1
      · simp only [hw] at h1 ⊢
        exact h1

/-! ### A quiet head, a tail that waits for it -/

def anyT (F : Fence) (n : Nat) (P : Program) (md : Region.Mode) (ops : Array Oper) (C : World → Prop) (m : Nat) (L : Array Bool → Act → Prop) : Nat → Array Bool → Act → Prop
  | 0, listed, a => L listed a
  | f + 1, listed, a => Region.ready md ops listed ≠ [] ∧ ∀ i ∈ Region.ready md ops listed, i < m ∧ qOpIn F n P ops C i (anyT F n P md ops C m L f (listed.setIfInBounds i true)) a

theorem anyT_any {m g : Nat} {L : Array Bool → Act → Prop} {Q : Exit → Act → World → Prop} (hro : F.round = none) (hL : ∀ listed a w, C w → L listed a → wpAnyIn F n P md ops Q g listed a w) :
    ∀ (f : Nat) (listed : Array Bool) (a : Act) (w : World), C w → anyT F n P md ops C m L f listed a → wpAnyIn F n P md ops Q (f + g) listed a w
  | 0, listed, a, w, hw, h => by rw [Nat.zero_add]; exact hL _ _ _ hw h
  | f + 1, listed, a, w, hw, h => by
    rw [show f + 1 + g = (f + g) + 1 by omega]
    exact ⟨fun h0 => absurd h0 h.1, fun i hi => wpOpIn_of_qOpIn hro hw (fun a' w' hw' h' => anyT_any hro hL f _ a' w' hw' h') (h.2 i hi).2⟩

theorem anyT_first {m i : Nat} {oi : Oper} {v : Value} {L : Array Bool → Act → Prop} (hi : ops[i]? = some oi) (hsel : ∀ (j : Nat) (o : Oper) cs b, ops[j]? = some o → o.op ≠ .select cs b)
    (hs : Region.sinkB md ops m = true) (hc : Region.chainB md ops m = true) (hn : m < ops.size) (him : i < m)
    (hdone : ∀ listed a, L listed a → ∀ j ∈ Region.ready md ops listed, m ≤ j) :
    ∀ (f : Nat) (listed : Array Bool) (a : Act), HeadInv md ops m listed →
      (∀ j oj, ops[j]? = some oj → j ≠ i → listed.getD j true = false → (∀ e ∈ oj.after, Region.binds md e = true → e.on ≠ i) → oi.apart ops oj = true) →
      i ∈ Region.ready md ops listed → YieldsQuiet F n P ops C oi v a →
      anyT F n P md ops C m L f (listed.setIfInBounds i true) (a.put oi.dst v) → anyT F n P md ops C m L (f + 1) listed a := by
  intro f
  induction f with
  | zero =>
    intro listed a inv _ hr hy H
    refine ⟨List.ne_nil_of_mem hr, fun j hj => ?_⟩
    have hjm : j < m := Nat.lt_of_not_le fun h => tail_waits hs hc hn inv _ i rfl him (mem_ready.1 hr).1 j h hj
    by_cases hji : j = i
    · subst hji
      exact ⟨hjm, hy.qOpIn hi H⟩
    · exact absurd (hdone _ _ H j (ready_mono hj hji)) (by omega)
  | succ f ih =>
    intro listed a inv hfree hr hy H
    refine ⟨List.ne_nil_of_mem hr, fun j hj => ?_⟩
    have hun := (mem_ready.1 hr).1
    have hjm : j < m := Nat.lt_of_not_le fun h => tail_waits hs hc hn inv _ i rfl him hun j h hj
    refine ⟨hjm, ?_⟩
    by_cases hji : j = i
    · subst hji
      exact hy.qOpIn hi H
    · obtain ⟨hjun, oj, hoj, hall⟩ := mem_ready.1 hj
      have hnot : ∀ e ∈ oj.after, Region.binds md e = true → e.on ≠ i := fun e he hb heq => by
        have h1 := hall e he hb
        rw [heq, getD_both hun] at h1
        cases h1
      have h2 := qOpIn_put hoj (hfree j oj hoj hji hjun hnot) (fun cs b => hsel i oi cs b hi) (fun cs b => hsel j oj cs b hoj) hy (H.2 j (ready_mono hj hji)).2
      refine qOpIn_mono (fun a' h3 => ih (listed.setIfInBounds j true) a' (inv.set hj hjm) (fun k ok hk hki hk' hno => hfree k ok hk hki ?_ hno) (ready_mono hr (Ne.symm hji)) h3.1 ?_) h2
      · by_cases hjk : j = k
        · subst hjk; exact hjun
        · rwa [getD_set_ne true hjk] at hk'
      · rw [Array.setIfInBounds_comm _ _ hji]
        exact h3.2

theorem anyT_lex {m g : Nat} {Lq : Act → Prop} (hsel : Region.noSelect ops = true) (hs : Region.sinkB md ops m = true) (hc : Region.chainB md ops m = true) (hn : m < ops.size) :
    ∀ (l : List Oper) (k : Nat) (listed : Array Bool) (a : Act), (∀ j, j < l.length → l[j]? = ops[k + j]?) → k + l.length = m → HeadInv md ops m listed →
    Region.lexHead md ops g l.length k listed = true → wpQuietIn F n P ops C Lq l a →
    anyT F n P md ops C m (fun listed' a' => Region.seqB md ops g m listed' = true ∧ Lq a') l.length listed a
  | [], k, listed, a, _, hk, _, hB, h => by
    have : k = m := by simpa using hk
    subst this
    exact ⟨by simpa [Region.lexHead] using hB, h⟩
  | o :: l, k, listed, a, hl, hk, inv, hB, h => by
    have h0 : ops[k]? = some o := by simpa using (hl 0 (by simp)).symm
    simp only [List.length_cons, Region.lexHead, Bool.and_eq_true] at hB hk
    obtain ⟨⟨hr, hf⟩, hB'⟩ := hB
    have hr' : k ∈ Region.ready md ops listed := by simpa using hr
    have hst : qOpIn F n P ops C k (wpQuietIn F n P ops C Lq l) a := by unfold qOpIn; simp only [h0]; exact h
    obtain ⟨v, hy, hK⟩ := yieldsQuiet_of_qOpIn h0 hst
    refine anyT_first h0 (Region.noSelect_spec hsel) hs hc hn (by omega) (fun listed' a' hL => seqB_ready hL.1) l.length listed a inv (Region.free_spec h0 hf) hr' hy ?_
    refine anyT_lex hsel hs hc hn l (k + 1) _ _ (fun j hj => ?_) (by omega) (inv.set hr' (by omega)) hB' hK
    have := hl (j + 1) (by simp; omega)
    simpa [Nat.add_assoc, Nat.add_comm 1 j] using this

theorem seq_any {Q : Exit → Act → World → Prop} : ∀ (l : List Oper) (k : Nat) (listed : Array Bool) (a : Act) (w : World), (∀ j, l[j]? = ops[k + j]?) →
    Region.seqB md ops l.length k listed = true → wpListIn F n P ops Q l a w → wpAnyIn F n P md ops Q l.length listed a w
  | [], _, _, _, _, _, hB, h => ⟨by simpa [Region.seqB] using hB, h⟩
  | o :: l, k, listed, a, w, hl, hB, h => by
    have h0 : ops[k]? = some o := by simpa using (hl 0).symm
    simp only [List.length_cons, Region.seqB, Bool.and_eq_true, decide_eq_true_eq] at hB
    refine ⟨fun h1 => (by rw [hB.1] at h1; cases h1), fun i hi => ?_⟩
    rw [hB.1] at hi
    obtain rfl : i = k := by simpa using hi
    have hw : wpOpIn F n P ops Q i (wpListIn F n P ops Q l) a w := by unfold wpOpIn; simp only [h0]; exact h
    exact wpOpIn_mono (fun a' w' h' => seq_any l (i + 1) _ a' w' (fun j => by have := hl (j + 1); simpa [Nat.add_assoc, Nat.add_comm 1 j] using this) hB.2 h') hw

theorem tail_any {Q : Exit → Act → World → Prop} {a : Act} {w : World} {l : List Oper} (m : Nat) (hro : F.round = none) (hB : Region.lexTailB .any l.toArray m = true) (hC : C w)
    (h : wpQuietIn F n P l.toArray C (fun a' => ∀ w', C w' → wpListIn F n P l.toArray Q (l.drop m) a' w') (l.take m) a) :
    wpAnyIn F n P .any l.toArray Q l.toArray.size (Array.replicate l.toArray.size false) a w := by
  simp only [Region.lexTailB, Bool.and_eq_true, decide_eq_true_eq] at hB
  obtain ⟨⟨⟨⟨hsel, hn⟩, hs⟩, hc⟩, hlex⟩ := hB
  have hn' : m < l.length := by simpa using hn
  have htl : (l.take m).length = m := by simp; omega
  have hdl : (l.drop m).length = l.toArray.size - m := by simp
  have inv0 : HeadInv .any l.toArray m (Array.replicate l.toArray.size false) :=
    ⟨by simp, fun j oj _ hl => (by rw [getD_replicate_false] at hl; cases hl), fun t _ ht => getD_in (by simpa using ht) (getD_replicate_false _ _)⟩
  have H := anyT_lex (md := .any) (g := l.toArray.size - m) hsel hs hc hn (l.take m) 0 _ a (fun j hj => by
    have hj' : j < m := by rw [htl] at hj; exact hj
    simp [hj']) (by simpa using htl) inv0 (by rw [htl]; exact hlex) h
  have H2 := anyT_any (Q := Q) (g := l.toArray.size - m) hro (fun listed a' w' hw' hL => by
    have := seq_any (md := .any) (Q := Q) (l.drop m) m listed a' w' (fun j => by simp [List.getElem?_drop]) (by rw [hdl]; exact hL.1) (hL.2 w' hw')
    rwa [hdl] at this) _ _ _ w hC H
  rw [htl, show m + (l.toArray.size - m) = l.toArray.size by omega] at H2
  exact H2
end

/-- No operation of the region is a defer statement. -/
def noDefer (l : List Oper) : Bool := l.all fun o => match o.op with | .defer _ => false | _ => true

theorem noDefer_spec {l : List Oper} (h : noDefer l = true) (i : Nat) (o : Oper) (ho : l.toArray[i]? = some o) (c : Call) : o.op ≠ .defer c := by
  intro e
  have h1 := List.all_eq_true.1 h o (List.mem_of_getElem? (by simpa using ho))
  rw [e] at h1
  cases h1

/-- IN A ROUND: a quiet head, a tail of the last operations. -/
theorem wpIn_round_tail {n : Nat} {P : Program} {id r : Nat} {Q : Exit → Act → World → Prop} {a : Act} {w : World} {l : List Oper} (m : Nat) (hm : P.follows .mixedOrders = true) (hB : Region.lexTailB .any l.toArray m = true) (hd : noDefer l = true)
    (h : wpQuietIn Fence.wide n P l.toArray (fun w' => ∃ n, w' = w.drewN n) (fun a' => ∀ w', (∃ n, w' = w.drewN n) → wpListIn Fence.wide n P l.toArray Q (l.drop m) a' w') (l.take m) a) :
    (Code.region id l.toArray true).wpIn (Fence.wide.inRound r) n P Q a w :=
  wpIn_region_any hm (any_round r (noDefer_spec hd) rfl _ _ _ _ (tail_any (C := fun w' => ∃ n, w' = w.drewN n) m rfl hB ⟨1, rfl⟩ h))

/-- IN A ROUND: quiet throughout. -/
theorem wpIn_round_quiet {n : Nat} {P : Program} {id r : Nat} {Q : Exit → Act → World → Prop} {a : Act} {w : World} {l : List Oper} (hm : P.follows .mixedOrders = true) (hB : Region.lexB .any l.toArray = true) (hd : noDefer l = true)
    (h : wpQuietIn Fence.wide n P l.toArray (fun w' => ∃ n, w' = w.drewN n) (fun a' => ∀ w', (∃ n, w' = w.drewN n) → Q .normal a' w') l a) :
    (Code.region id l.toArray true).wpIn (Fence.wide.inRound r) n P Q a w := by
  simp only [Region.lexB, Bool.and_eq_true] at hB
  refine wpIn_region_any hm (any_round r (noDefer_spec hd) rfl _ _ _ _ (wpAnyIn_of_quiet (C := fun w' => ∃ n, w' = w.drewN n) (Q := fun a' => ∀ w', (∃ n, w' = w.drewN n) → Q .normal a' w') rfl (fun _ w' hw' h => h w' hw') _ _ _ _ ⟨1, rfl⟩ ?_))
  have := wpAnyQIn_lex (F := Fence.wide) (n := n) (C := fun w' => ∃ n, w' = w.drewN n) (md := .any) hB.1 l 0 (Array.replicate l.toArray.size false) a (by simp) (by simpa using hB.2) h
  simpa using this

end Go.Proofs.Qxb6615834aFmt
