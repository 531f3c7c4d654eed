/-
  The plain law of learn: maps of numbers, counted.
-/
import Derived.Maps.OwnSet
namespace Go.Proofs.Qxb6616089a
open Go.Maps

/-! ### counting below a bound -/
def cnt (p : Nat → Bool) : Nat → Nat
  | 0 => 0
  | n + 1 => cnt p n + (p n).toNat
theorem cnt_succ (p : Nat → Bool) (n : Nat) : cnt p (n + 1) = cnt p n + (p n).toNat := rfl
theorem cnt_le (p : Nat → Bool) : ∀ n, cnt p n ≤ n
  | 0 => Nat.le_refl _
  | n + 1 => by have := cnt_le p n; rw [cnt_succ]; cases p n <;> simp <;> omega
theorem cnt_congr {p q : Nat → Bool} : ∀ {n : Nat}, (∀ i, i < n → p i = q i) → cnt p n = cnt q n
  | 0, _ => rfl
  | n + 1, h => by rw [cnt_succ, cnt_succ, cnt_congr (fun i hi => h i (by omega)), h n (Nat.lt_succ_self n)]
theorem cnt_split (p q : Nat → Bool) : ∀ n, cnt q n = cnt (fun i => (!p i) && q i) n + cnt (fun i => p i && q i) n
  | 0 => rfl
  | n + 1 => by
    rw [cnt_succ, cnt_succ, cnt_succ, cnt_split p q n]
    cases p n <;> cases q n <;> simp <;> omega
theorem cnt_zero {p : Nat → Bool} : ∀ {n : Nat}, (∀ i, i < n → p i = false) → cnt p n = 0
  | 0, _ => rfl
  | n + 1, h => by rw [cnt_succ, cnt_zero (fun i hi => h i (by omega)), h n (Nat.lt_succ_self n)]; rfl
theorem cnt_one {p : Nat → Bool} {t : Nat} : ∀ {n : Nat}, t < n → (∀ i, i < n → (p i = true ↔ i = t)) → cnt p n = 1
  | n + 1, ht, h => by
    rw [cnt_succ]
    rcases Nat.lt_succ_iff_lt_or_eq.1 ht with h1 | h1
    · rw [cnt_one h1 (fun i hi => h i (by omega))]
      have : p n = false := by
        cases hp : p n
        · rfl
        · have := (h n (Nat.lt_succ_self n)).1 hp; omega
      rw [this]; rfl
    · subst h1
      rw [cnt_zero (fun i hi => by
        cases hp : p i
        · rfl
        · have := (h i (by omega)).1 hp; omega), (h t (Nat.lt_succ_self t)).2 rfl]; rfl
theorem cnt_or {p q : Nat → Bool} : ∀ {n : Nat}, (∀ i, i < n → ¬ (p i = true ∧ q i = true)) → cnt (fun i => p i || q i) n = cnt p n + cnt q n
  | 0, _ => rfl
  | n + 1, h => by
    rw [cnt_succ, cnt_succ, cnt_succ, cnt_or (fun i hi => h i (by omega))]
    have := h n (Nat.lt_succ_self n)
    revert this
    cases p n <;> cases q n <;> simp <;> omega

/-! ### the last place of a key -/
def lastOf (K : Nat → Int) : Nat → Int → Option Nat
  | 0, _ => none
  | n + 1, x => if K n = x then some n else lastOf K n x
theorem lastOf_succ (K : Nat → Int) (n : Nat) (x : Int) : lastOf K (n + 1) x = if K n = x then some n else lastOf K n x := rfl
theorem lastOf_lt {K : Nat → Int} : ∀ {n : Nat} {x : Int} {i : Nat}, lastOf K n x = some i → i < n ∧ K i = x
  | n + 1, x, i, h => by
    unfold lastOf at h
    split at h
    · rename_i e; cases h; exact ⟨Nat.lt_succ_self _, e⟩
    · have := lastOf_lt h; exact ⟨by omega, this.2⟩
theorem lastOf_some {K : Nat → Int} : ∀ {n : Nat} {i : Nat}, i < n → (lastOf K n (K i)).isSome = true
  | n + 1, i, h => by
    unfold lastOf
    split
    · rfl
    · rename_i hne
      rcases Nat.lt_succ_iff_lt_or_eq.1 h with h1 | h1
      · exact lastOf_some h1
      · subst h1; exact absurd rfl hne
/-- i is the last place of its key just if no later place bears it -/
theorem lastOf_iff {K : Nat → Int} : ∀ {n : Nat} {i : Nat}, i < n → (lastOf K n (K i) = some i ↔ ∀ j, i < j → j < n → K j ≠ K i)
  | n + 1, i, h => by
    unfold lastOf
    rcases Nat.lt_succ_iff_lt_or_eq.1 h with h1 | h1
    · by_cases e : K n = K i
      · rw [if_pos e]
        constructor
        · intro h2; cases h2; omega
        · intro h2; exact absurd e (h2 n h1 (Nat.lt_succ_self n))
      · rw [if_neg e, lastOf_iff h1]
        constructor
        · intro h2 j hj hjn
          rcases Nat.lt_succ_iff_lt_or_eq.1 hjn with h3 | h3
          · exact h2 j hj h3
          · subst h3; exact e
        · intro h2 j hj hjn; exact h2 j hj (by omega)
    · subst h1
      rw [if_pos rfl]
      exact ⟨fun _ j hj hjn => by omega, fun _ => rfl⟩

def isLast (K : Nat → Int) (n i : Nat) : Bool := decide (lastOf K n (K i) = some i)

theorem cnt_key (K : Nat → Int) (n : Nat) (x : Int) : cnt (fun i => decide (K i = x) && isLast K n i) n = if (lastOf K n x).isSome = true then 1 else 0 := by
  cases h : lastOf K n x with
  | none =>
    simp only [Option.isSome_none, Bool.false_eq_true, if_false]
    refine cnt_zero (fun i hi => ?_)
    cases e : decide (K i = x)
    · rfl
    · have e' : K i = x := of_decide_eq_true e
      have := lastOf_some (K := K) hi
      rw [e', h] at this
      cases this
  | some t =>
    simp only [Option.isSome_some, if_true]
    obtain ⟨ht, hk⟩ := lastOf_lt h
    refine cnt_one ht (fun i hi => ?_)
    simp only [Bool.and_eq_true, isLast, decide_eq_true_eq]
    constructor
    · rintro ⟨e1, e2⟩; rw [e1, h] at e2; exact (Option.some.inj e2).symm
    · rintro rfl; exact ⟨hk, by rw [hk]; exact h⟩

/-! ### the maps -/
def pairD (s q : Int) : DataW Unit := .agg [.lit (.int .i64 s), .lit (.int .u64 q)]
def keyL (x : Int) : Lit := .int .u64 x
theorem keyL_ok (x : Int) : WideAt.IsKeyLit (keyL x) := by simp [WideAt.IsKeyLit, keyL]
theorem keyL_ne {x y : Int} (h : x ≠ y) : keyL x ≠ keyL y := fun e => h (by unfold keyL at e; injection e)

def d0 (K S Q : Nat → Int) : Nat → DataW Unit
  | 0 => .map []
  | n + 1 => (d0 K S Q n).put (keyL (K n)) (pairD (S n) (Q n))
theorem d0_tidy (K S Q : Nat → Int) : ∀ n, Tidy (d0 K S Q n)
  | 0 => tidy_empty
  | n + 1 => (d0_tidy K S Q n).put (keyL_ok _) _
theorem has_d0 (K S Q : Nat → Int) (x : Int) : ∀ n, Maps.has (d0 K S Q n) (keyL x) = (lastOf K n x).isSome
  | 0 => rfl
  | n + 1 => by
    unfold d0 lastOf
    by_cases e : K n = x
    · rw [if_pos e, e, has_put_same (d0_tidy K S Q n).isMap (keyL_ok _)]; rfl
    · rw [if_neg e, has_put_other (keyL_ne (Ne.symm e)), has_d0 K S Q x n]
theorem at_d0 (K S Q : Nat → Int) (x : Int) : ∀ {n i : Nat}, lastOf K n x = some i → (d0 K S Q n).atKey (keyL x) (pairD 0 0) = pairD (S i) (Q i)
  | n + 1, i, h => by
    unfold lastOf at h
    unfold d0
    by_cases e : K n = x
    · rw [if_pos e] at h
      cases h
      rw [e, atKey_put_same (d0_tidy K S Q n).isMap (keyL_ok _)]
    · rw [if_neg e] at h
      rw [atKey_put_other (keyL_ne (Ne.symm e))]
      exact at_d0 K S Q x h
theorem size_d0 (K S Q : Nat → Int) : ∀ n, Maps.size (d0 K S Q n) = cnt (isLast K n) n
  | 0 => rfl
  | n + 1 => by
    unfold d0
    rw [size_put (d0_tidy K S Q n), has_d0, size_d0 K S Q n]
    rw [cnt_succ]
    have e1 : isLast K (n + 1) n = true := by simp [isLast, lastOf]
    have e2 : cnt (isLast K (n + 1)) n = cnt (fun i => (!decide (K i = K n)) && isLast K n i) n := cnt_congr (fun i hi => by
      refine Bool.eq_iff_iff.2 ?_
      simp only [isLast, decide_eq_true_eq, Bool.and_eq_true, Bool.not_eq_true', decide_eq_false_iff_not]
      rw [lastOf_succ]
      by_cases e : K n = K i
      · rw [if_pos e]
        constructor
        · intro h; cases h; omega
        · rintro ⟨h, _⟩; exact absurd e.symm h
      · rw [if_neg e]
        exact ⟨fun h => ⟨fun h2 => e h2.symm, h⟩, fun h => h.2⟩)
    rw [e1, e2, cnt_split (fun i => decide (K i = K n)) (isLast K n) n, cnt_key]
    cases (lastOf K n (K n)).isSome <;> rfl

/-! ### what learn adds -/
def lm (D : DataW Unit) (key MS MQ : Nat → Int) (next : Int) : Nat → DataW Unit
  | 0 => D
  | k + 1 => if next ≤ key k then (lm D key MS MQ next k).put (keyL (key k)) (pairD (MS k) (MQ k)) else lm D key MS MQ next k
theorem lm_tidy {D : DataW Unit} (hD : Tidy D) (key MS MQ : Nat → Int) (next : Int) : ∀ k, Tidy (lm D key MS MQ next k)
  | 0 => hD
  | k + 1 => by
    unfold lm
    split
    · exact (lm_tidy hD key MS MQ next k).put (keyL_ok _) _
    · exact lm_tidy hD key MS MQ next k
/-- a number that learn wrote -/
theorem lm_written {D : DataW Unit} (hD : Tidy D) {key MS MQ : Nat → Int} {next : Int} : ∀ {n k : Nat}, k < n → next ≤ key k → (∀ i j, i < n → j < n → key i = key j → i = j) →
    Maps.has (lm D key MS MQ next n) (keyL (key k)) = true ∧ (lm D key MS MQ next n).atKey (keyL (key k)) (pairD 0 0) = pairD (MS k) (MQ k)
  | n + 1, k, hk, hw, hinj => by
    unfold lm
    rcases Nat.lt_succ_iff_lt_or_eq.1 hk with h1 | h1
    · have hne : key k ≠ key n := fun e => by have := hinj k n hk (Nat.lt_succ_self n) e; omega
      have ih := lm_written hD (MS := MS) (MQ := MQ) h1 hw (fun i j hi hj => hinj i j (by omega) (by omega))
      split
      · rw [has_put_other (keyL_ne hne), atKey_put_other (keyL_ne hne)]; exact ih
      · exact ih
    · subst h1
      rw [if_pos hw]
      exact ⟨has_put_same (lm_tidy hD key MS MQ next k).isMap (keyL_ok _) _, atKey_put_same (lm_tidy hD key MS MQ next k).isMap (keyL_ok _) _ _⟩
/-- a number that it did not write -/
theorem lm_other {D : DataW Unit} {key MS MQ : Nat → Int} {next x : Int} : ∀ {n : Nat}, (∀ k, k < n → next ≤ key k → key k ≠ x) →
    Maps.has (lm D key MS MQ next n) (keyL x) = Maps.has D (keyL x) ∧ (lm D key MS MQ next n).atKey (keyL x) (pairD 0 0) = D.atKey (keyL x) (pairD 0 0)
  | 0, _ => ⟨rfl, rfl⟩
  | n + 1, h => by
    have ih := lm_other (D := D) (MS := MS) (MQ := MQ) (n := n) (fun k hk => h k (Nat.lt_succ_of_lt hk))
    unfold lm
    split
    · rename_i hw
      have hne := Ne.symm (h n (Nat.lt_succ_self n) hw)
      rw [has_put_other (keyL_ne hne), atKey_put_other (keyL_ne hne)]
      exact ih
    · exact ih

/-- is x among the first n numbers written? -/
def inW (key : Nat → Int) (next x : Int) : Nat → Bool
  | 0 => false
  | k + 1 => inW key next x k || (decide (next ≤ key k) && decide (key k = x))
theorem inW_iff {key : Nat → Int} {next x : Int} : ∀ {n : Nat}, inW key next x n = true ↔ ∃ k, k < n ∧ next ≤ key k ∧ key k = x
  | 0 => by simp [inW]
  | n + 1 => by
    unfold inW
    rw [Bool.or_eq_true, inW_iff, Bool.and_eq_true, decide_eq_true_eq, decide_eq_true_eq]
    constructor
    · rintro (⟨k, h1, h2⟩ | h2)
      · exact ⟨k, by omega, h2⟩
      · exact ⟨n, Nat.lt_succ_self n, h2⟩
    · rintro ⟨k, h1, h2⟩
      rcases Nat.lt_succ_iff_lt_or_eq.1 h1 with h3 | h3
      · exact Or.inl ⟨k, h3, h2⟩
      · subst h3; exact Or.inr h2

/-- HOW MANY NUMBERS THERE ARE BEHIND learn -/
theorem size_lm (K S Q : Nat → Int) (m : Nat) (key MS MQ : Nat → Int) (next : Int) : ∀ n, (∀ i j, i < n → j < n → key i = key j → i = j) →
    Maps.size (lm (d0 K S Q m) key MS MQ next n) + cnt (fun i => inW key next (K i) n && isLast K m i) m = cnt (isLast K m) m + cnt (fun k => decide (next ≤ key k)) n
  | 0, _ => by
    show Maps.size (d0 K S Q m) + cnt (fun i => inW key next (K i) 0 && isLast K m i) m = cnt (isLast K m) m + 0
    rw [size_d0, cnt_zero (p := fun i => inW key next (K i) 0 && isLast K m i) (fun _ _ => rfl)]
  | n + 1, hinj => by
    have ih := size_lm K S Q m key MS MQ next n (fun i j hi hj => hinj i j (by omega) (by omega))
    rw [cnt_succ]
    unfold lm
    by_cases hw : next ≤ key n
    · have hnew : ∀ k, k < n → next ≤ key k → key k ≠ key n := fun k hk _ e => by have := hinj k n (by omega) (Nat.lt_succ_self n) e; omega
      rw [if_pos hw, size_put (lm_tidy (d0_tidy K S Q m) key MS MQ next n), (lm_other (D := d0 K S Q m) (MS := MS) (MQ := MQ) hnew).1, has_d0]
      have e1 : cnt (fun i => inW key next (K i) (n + 1) && isLast K m i) m = cnt (fun i => inW key next (K i) n && isLast K m i) m + cnt (fun i => decide (K i = key n) && isLast K m i) m := by
        rw [← cnt_or]
        · refine cnt_congr (fun i _ => ?_)
          simp only [inW, hw, decide_true, Bool.true_and]
          rw [show decide (key n = K i) = decide (K i = key n) from decide_eq_decide.2 eq_comm]
          cases inW key next (K i) n <;> cases decide (K i = key n) <;> cases isLast K m i <;> rfl
        · rintro i _ ⟨h1, h2⟩
          simp only [Bool.and_eq_true, decide_eq_true_eq] at h1 h2
          obtain ⟨k, hk, hk2, hk3⟩ := inW_iff.1 h1.1
          exact hnew k hk hk2 (by rw [hk3, h2.1])
      rw [e1, cnt_key, decide_eq_true hw]
      cases (lastOf K m (key n)).isSome
      · simp only [Bool.false_eq_true, if_false, Bool.toNat_true]; omega
      · simp only [if_true, Bool.toNat_true]; omega
    · rw [if_neg hw]
      have e1 : cnt (fun i => inW key next (K i) (n + 1) && isLast K m i) m = cnt (fun i => inW key next (K i) n && isLast K m i) m := cnt_congr (fun i _ => by simp [inW, hw])
      rw [e1, decide_eq_false hw]
      simp only [Bool.toNat_false]
      omega

end Go.Proofs.Qxb6616089a
