/-
  Plain: the model's sweeps (zzPrune) end in the core; its relaxation (zzReach) ends in the reachable parties.
-/
import Derived.Test.Qxb6615834aFmtPInv
import Derived.Test.Qxb6615834aFmtBfs
namespace Go.Proofs.Qxb6615834aFmt

/-- The edges of N as one set: x < y at x * n + y. -/
def edgeB (N : Nat → Nat → Bool) (n : Nat) : Nat → Bool := fun k => decide (k / n < k % n) && N (k / n) (k % n)
def edges (N : Nat → Nat → Bool) (n : Nat) : Nat := cnt (edgeB N n) (n * n)

theorem edges_lt (N : Nat → Nat → Bool) {n : Nat} (hn : 0 < n) : edges N n < n * n := by
  have hnn : 0 < n * n := Nat.mul_pos hn hn
  have h1 : edges N n ≤ cnt (putB (fun _ => true) 0 false) (n * n) := cnt_mono _ fun x _ h => by
    unfold putB
    by_cases e : x = 0
    · subst e
      simp [edgeB] at h
    · simp [e]
  have h2 := cnt_putB_false (fun _ => true) 0 (n * n)
  rw [if_pos ⟨hnn, rfl⟩] at h2
  have h3 := cnt_le (fun _ => true) (n * n)
  omega

theorem edges_cut {N : Nat → Nat → Bool} {n a b : Nat} (hab : a < b) (hb : b < n) (h : N a b = true) : edges (cutN N a b) n + 1 = edges N n := by
  have hdiv : (a * n + b) / n = a := by
    rw [Nat.mul_comm, Nat.mul_add_div (by omega), Nat.div_eq_of_lt hb]
    rfl
  have hmod : (a * n + b) % n = b := by
    rw [Nat.mul_comm, Nat.mul_add_mod, Nat.mod_eq_of_lt hb]
  have hlt : a * n + b < n * n := by
    have : (a + 1) * n ≤ n * n := Nat.mul_le_mul_right _ (by omega)
    rw [Nat.succ_mul] at this
    omega
  have h1 := cnt_putB_false (edgeB N n) (a * n + b) (n * n)
  rw [if_pos ⟨hlt, by simp only [edgeB, hdiv, hmod, h]; simp [hab]⟩] at h1
  have h2 : edges (cutN N a b) n = cnt (putB (edgeB N n) (a * n + b) false) (n * n) := cnt_congr _ fun k _ => by
    unfold putB
    by_cases e : k = a * n + b
    · subst e
      rw [if_pos rfl]
      simp only [edgeB, hdiv, hmod, cutN_at N (show a ≠ b by omega)]
      simp
    · rw [if_neg e]
      simp only [edgeB]
      by_cases e2 : k / n < k % n
      · rw [cutN_at N (show a ≠ b by omega), if_neg]
        rintro (⟨h3, h4⟩ | ⟨h3, h4⟩)
        · apply e
          rw [← h3, ← h4, Nat.mul_comm]
          exact (Nat.div_add_mod k n).symm
        · omega
      · simp [e2]
  unfold edges at *
  omega

/-! ### The sweeps -/

structure SInv (G N : Nat → Nat → Bool) (n h : Nat) (P : Nat → Nat → Bool) : Prop where
  gr : Gr N n
  sub : Sub N G n
  most : ∀ K, Gr K n → Sub K G n → Stable K n h → Sub K N n
  pr : ∀ x y, x < y → y < n → (P x y = true ↔ G x y = true ∧ N x y = false)

theorem SInv.start {G : Nat → Nat → Bool} {n h : Nat} (hG : Gr G n) : SInv G G n h (fun _ _ => false) :=
  ⟨hG, fun _ _ _ _ e => e, fun _ _ hs _ => hs, fun x y _ _ => ⟨fun h => (by cases h), fun ⟨h1, h2⟩ => (by rw [h1] at h2; cases h2)⟩⟩

theorem putN_at (N : Nat → Nat → Bool) (a b x y : Nat) (v : Bool) : putN N a b v x y = if x = a ∧ y = b then v else N x y := by
  unfold putN putB
  by_cases e : x = a
  · subst e
    by_cases e2 : y = b
    · simp [e2]
    · simp [e2]
  · simp [e]

theorem SInv.cut {G N P : Nat → Nat → Bool} {n h a b : Nat} (hI : SInv G N n h P) (hab : a < b) (hb : b < n) (he : N a b = true) (hf : comm N n a b < h) : SInv G (cutN N a b) n h (putN P a b true) := by
  have hne : a ≠ b := by omega
  refine ⟨hI.gr.cut hne, (Sub.cut hne).trans hI.sub, fun K g s st => (hI.most K g s st).past g st hab hb hf, fun x y hxy hy => ?_⟩
  rw [putN_at, cutN_at N hne]
  by_cases e : x = a ∧ y = b
  · rw [if_pos e, if_pos (Or.inl e)]
    obtain ⟨rfl, rfl⟩ := e
    have := hI.sub x y (by omega) hy he
    simp [this]
  · rw [if_neg e, if_neg (by omega)]
    exact hI.pr x y hxy hy

/-- A sweep has come to (a, b); r: it has removed an edge; E: how many there were before it, or more. -/
structure Swp (G N : Nat → Nat → Bool) (n h : Nat) (P : Nat → Nat → Bool) (E a b : Nat) (r : Bool) : Prop where
  inv : SInv G N n h P
  few : edges N n + (if r then 1 else 0) ≤ E
  ok : r = false → ∀ x y, x < y → y < n → (x < a ∨ (x = a ∧ y < b)) → N x y = true → h ≤ comm N n x y

theorem Swp.begin {G N P : Nat → Nat → Bool} {n h E : Nat} (hI : SInv G N n h P) (hE : edges N n ≤ E) : Swp G N n h P E 0 1 false :=
  ⟨hI, by simpa using hE, fun _ x y hxy _ hv => by omega⟩

theorem Swp.skip {G N P : Nat → Nat → Bool} {n h E a b : Nat} {r : Bool} (hI : Swp G N n h P E a b r) (hk : N a b = true → h ≤ comm N n a b) : Swp G N n h P E a (b + 1) r :=
  ⟨hI.inv, hI.few, fun hr x y hxy hy hv hN => by
    by_cases e : x = a ∧ y = b
    · obtain ⟨rfl, rfl⟩ := e
      exact hk hN
    · exact hI.ok hr x y hxy hy (by omega) hN⟩

theorem Swp.cut {G N P : Nat → Nat → Bool} {n h E a b : Nat} {r : Bool} (hI : Swp G N n h P E a b r) (hab : a < b) (hb : b < n) (he : N a b = true) (hf : comm N n a b < h) : Swp G (cutN N a b) n h (putN P a b true) E a (b + 1) true :=
  ⟨hI.inv.cut hab hb he hf, by
    have h1 := edges_cut hab hb he
    have h2 := hI.few
    simp
    omega, fun hr => by cases hr⟩

theorem Swp.next {G N P : Nat → Nat → Bool} {n h E a b : Nat} {r : Bool} (hI : Swp G N n h P E a b r) (hb : n ≤ b) : Swp G N n h P E (a + 1) (a + 2) r :=
  ⟨hI.inv, hI.few, fun hr x y hxy hy hv hN => hI.ok hr x y hxy hy (by omega) hN⟩

theorem Swp.core {G N P : Nat → Nat → Bool} {n h E a b : Nat} (hI : Swp G N n h P E a b false) (ha : n ≤ a) : Core N G n h :=
  ⟨hI.inv.gr, hI.inv.sub, fun x y hxy hy hN => hI.ok rfl x y hxy hy (by omega) hN, hI.inv.most⟩

/-! ### The relaxation -/

structure RInv (N : Nat → Nat → Bool) (n p : Nat) (M : Nat → Bool) : Prop where
  here : M p = true
  sound : ∀ x, M x = true → x < n ∧ Reach N p x

/-- A round has come to (a, b); g: it has marked a party; E: how many were marked before it, or fewer. -/
structure Rsw (N : Nat → Nat → Bool) (n p : Nat) (M : Nat → Bool) (E a b : Nat) (g : Bool) : Prop where
  inv : RInv N n p M
  many : E + (if g then 1 else 0) ≤ cnt M n
  ok : g = false → ∀ x y, (x < a ∨ (x = a ∧ y < b)) → M x = true → y < n → N x y = true → M y = true

theorem Rsw.begin {N : Nat → Nat → Bool} {n p E : Nat} {M : Nat → Bool} (hI : RInv N n p M) (hE : E ≤ cnt M n) : Rsw N n p M E 0 0 false :=
  ⟨hI, by simpa using hE, fun _ x y hv => by omega⟩

theorem Rsw.pass {N : Nat → Nat → Bool} {n p E a b : Nat} {M : Nat → Bool} {g : Bool} (hI : Rsw N n p M E a b g) (ha : M a = false) : Rsw N n p M E (a + 1) 0 g :=
  ⟨hI.inv, hI.many, fun hg x y hv hM hy hN => by
    by_cases e : x = a
    · subst e
      rw [ha] at hM
      cases hM
    · exact hI.ok hg x y (by omega) hM hy hN⟩

theorem Rsw.skip {N : Nat → Nat → Bool} {n p E a b : Nat} {M : Nat → Bool} {g : Bool} (hI : Rsw N n p M E a b g) (hk : M a = true → N a b = true → M b = true) : Rsw N n p M E a (b + 1) g :=
  ⟨hI.inv, hI.many, fun hg x y hv hM hy hN => by
    by_cases e : x = a ∧ y = b
    · obtain ⟨rfl, rfl⟩ := e
      exact hk hM hN
    · exact hI.ok hg x y (by omega) hM hy hN⟩

theorem cnt_putB_true {S : Nat → Bool} {x n : Nat} (hx : x < n) (h : S x = false) : cnt (putB S x true) n = cnt S n + 1 := by
  have h1 := cnt_putB_false (putB S x true) x n
  rw [if_pos ⟨hx, by simp [putB]⟩] at h1
  have h2 : cnt (putB (putB S x true) x false) n = cnt S n := cnt_congr _ fun j _ => by
    unfold putB
    by_cases e : j = x
    · simp [e, h]
    · simp [e]
  omega

theorem Rsw.mark {N : Nat → Nat → Bool} {n p E a b : Nat} {M : Nat → Bool} {g : Bool} (hI : Rsw N n p M E a b g) (hb : b < n) (ha : M a = true) (he : N a b = true) (hf : M b = false) : Rsw N n p (putB M b true) E a (b + 1) true := by
  refine ⟨⟨?_, fun x hx => ?_⟩, ?_, fun hg => by cases hg⟩
  · unfold putB
    split
    · rfl
    · exact hI.inv.here
  · unfold putB at hx
    by_cases e : x = b
    · subst e
      exact ⟨hb, .step (hI.inv.sound a ha).2 he⟩
    · rw [if_neg e] at hx
      exact hI.inv.sound x hx
  · rw [cnt_putB_true hb hf]
    have := hI.many
    simp
    omega

theorem Rsw.next {N : Nat → Nat → Bool} {n p E a b : Nat} {M : Nat → Bool} {g : Bool} (hI : Rsw N n p M E a b g) (hb : n ≤ b) : Rsw N n p M E (a + 1) 0 g :=
  ⟨hI.inv, hI.many, fun hg x y hv hM hy hN => hI.ok hg x y (by omega) hM hy hN⟩

theorem Rsw.ends {N : Nat → Nat → Bool} {n p E a b : Nat} {M : Nat → Bool} (hI : Rsw N n p M E a b false) (hN : ∀ x y, N x y = true → y < n) (ha : n ≤ a) (x : Nat) : M x = true ↔ x < n ∧ Reach N p x := by
  constructor
  · exact hI.inv.sound x
  · rintro ⟨hx, hr⟩
    clear hx
    have : M x = true ∧ x < n := by
      induction hr with
      | here => exact ⟨hI.inv.here, (hI.inv.sound p hI.inv.here).1⟩
      | step _ e ih => exact ⟨hI.ok rfl _ _ (Or.inl (by omega)) ih.1 (hN _ _ e) e, hN _ _ e⟩
    exact this.1

theorem RInv.start (N : Nat → Nat → Bool) {n p : Nat} (hp : p < n) : RInv N n p (putB (fun _ => false) p true) :=
  ⟨by simp [putB], fun x hx => by
    unfold putB at hx
    by_cases e : x = p
    · subst e
      exact ⟨hp, .here⟩
    · rw [if_neg e] at hx
      cases hx⟩

theorem cnt_start {n p : Nat} (hp : p < n) : 1 ≤ cnt (putB (fun _ => false) p true) n := by
  rw [cnt_putB_true hp rfl]
  omega

/-- The reach depends on the edges among the parties below n alone. -/
theorem Reach.congr {N N' : Nat → Nat → Bool} {n p : Nat} (h : ∀ x y, x < n → y < n → N x y = N' x y) (hN : ∀ x y, N x y = true → y < n) (hp : p < n) {x : Nat} (hr : Reach N p x) : Reach N' p x ∧ x < n := by
  induction hr with
  | here => exact ⟨.here, hp⟩
  | step _ e ih => exact ⟨.step ih.1 (by rw [← h _ _ ih.2 (hN _ _ e)]; exact e), hN _ _ e⟩

end Go.Proofs.Qxb6615834aFmt
