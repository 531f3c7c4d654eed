/-
  The told and tied card of FnViewAgreesAcrossPartiesAndAccusationOrder.
-/
import Derived.Test.Qxb6615834aFmtCards
import Derived.Test.Qxb6615834aFmtTie
import Derived.Test.Qxb6615834aFmtL5b
import Derived.Test.Qxb6615834aFmtOpen
import Derived.SevenToldRow
import Derived.SevenTiedAt
import Derived.Carry
import Derived.Stop.JoinedTold
import Derived.SizedLaws
namespace Go.Proofs.Qxb6615834aFmt
open Go.ChangeShapes Go.WideShapes Go.ChangeAt Go.RowKit
open Go.Extern.Stop Go.Stop Go.Extern

theorem Tryf.own : ownKnob Tryf.prog.godebug = none := by kernel_rfl
theorem Tryf.laidOut : laidOutB Tryf.pinned.checked.prog = true := by kernel_rfl
theorem Tryf.stopsAre : Tryf.pinned.checked.prog.stops = ["fmt.Sprintf", "fmt.errorf"] := by kernel_rfl
theorem Tryf.stopKnobsAre : Tryf.pinned.checked.prog.stopKnobs = [] := by kernel_rfl
theorem Tryf.quietAt (os : Os) : Stop.quiet Tryf.pinned.checked.prog os := by
  intro k hk
  rw [Tryf.stopKnobsAre] at hk
  cases hk

section
variable {H : Type} {enc : TypeId × Value → H} {P : Program} {w : World} {base : Nat} {spare : Nat → Bool} {held : Bool}
theorem trodAll_six {t0 t1 t2 t3 t4 t5 : TypeId} {args : Array Value} {ds : List (DataW H)} {ps : List MemPlace} (h : DataW.TrodAll enc P w base spare held [t0, t1, t2, t3, t4, t5] args.toList ds ps) :
    ∃ v0 v1 v2 v3 v4 v5 d0 d1 d2 d3 d4 d5 p0 p1 p2 p3 p4 p5, args = #[v0, v1, v2, v3, v4, v5] ∧ ds = [d0, d1, d2, d3, d4, d5] ∧ ps = p0 ++ p1 ++ p2 ++ p3 ++ p4 ++ p5 ∧ DataW.Trod enc P w base spare held t0 v0 d0 p0 ∧ DataW.Trod enc P w base spare held t1 v1 d1 p1 ∧
      DataW.Trod enc P w base spare held t2 v2 d2 p2 ∧ DataW.Trod enc P w base spare held t3 v3 d3 p3 ∧ DataW.Trod enc P w base spare held t4 v4 d4 p4 ∧ DataW.Trod enc P w base spare held t5 v5 d5 p5 := by
  obtain ⟨a0, as0, b0, bs0, c0, r0, hargs, rfl, rfl, g0, k0⟩ := trodAll_cons h
  obtain ⟨a1, as1, b1, bs1, c1, r1, rfl, rfl, rfl, g1, k1⟩ := trodAll_cons k0
  obtain ⟨a2, as2, b2, bs2, c2, r2, rfl, rfl, rfl, g2, k2⟩ := trodAll_cons k1
  obtain ⟨a3, as3, b3, bs3, c3, r3, rfl, rfl, rfl, g3, k3⟩ := trodAll_cons k2
  obtain ⟨a4, as4, b4, bs4, c4, r4, rfl, rfl, rfl, g4, k4⟩ := trodAll_cons k3
  obtain ⟨a5, as5, b5, bs5, c5, r5, rfl, rfl, rfl, g5, k5⟩ := trodAll_cons k4
  obtain ⟨rfl, rfl, rfl⟩ := trodAll_nil k5
  exact ⟨a0, a1, a2, a3, a4, a5, b0, b1, b2, b3, b4, b5, c0, c1, c2, c3, c4, c5, by cases args; simp_all, rfl, by simp, g0, g1, g2, g3, g4, g5⟩
theorem trodAll_mk5 {t0 t1 t2 t3 t4 : TypeId} {v0 v1 v2 v3 v4 : Value} {d0 d1 d2 d3 d4 : DataW H} {p0 p1 p2 p3 p4 : List MemPlace} (h0 : DataW.Trod enc P w base spare held t0 v0 d0 p0) (h1 : DataW.Trod enc P w base spare held t1 v1 d1 p1)
    (h2 : DataW.Trod enc P w base spare held t2 v2 d2 p2) (h3 : DataW.Trod enc P w base spare held t3 v3 d3 p3) (h4 : DataW.Trod enc P w base spare held t4 v4 d4 p4) :
    DataW.TrodAll enc P w base spare held [t0, t1, t2, t3, t4] [v0, v1, v2, v3, v4] [d0, d1, d2, d3, d4] (p0 ++ (p1 ++ (p2 ++ (p3 ++ p4)))) := ⟨p0, p1 ++ (p2 ++ (p3 ++ p4)), h0, trodAll_mk4 h1 h2 h3 h4, rfl⟩
theorem trodAll_mk6 {t0 t1 t2 t3 t4 t5 : TypeId} {v0 v1 v2 v3 v4 v5 : Value} {d0 d1 d2 d3 d4 d5 : DataW H} {p0 p1 p2 p3 p4 p5 : List MemPlace} (h0 : DataW.Trod enc P w base spare held t0 v0 d0 p0) (h1 : DataW.Trod enc P w base spare held t1 v1 d1 p1)
    (h2 : DataW.Trod enc P w base spare held t2 v2 d2 p2) (h3 : DataW.Trod enc P w base spare held t3 v3 d3 p3) (h4 : DataW.Trod enc P w base spare held t4 v4 d4 p4) (h5 : DataW.Trod enc P w base spare held t5 v5 d5 p5) :
    DataW.TrodAll enc P w base spare held [t0, t1, t2, t3, t4, t5] [v0, v1, v2, v3, v4, v5] [d0, d1, d2, d3, d4, d5] (p0 ++ (p1 ++ (p2 ++ (p3 ++ (p4 ++ p5))))) := ⟨p0, p1 ++ (p2 ++ (p3 ++ (p4 ++ p5))), h0, trodAll_mk5 h1 h2 h3 h4 h5, rfl⟩
end

/-- The pairs less one each. -/
def accN (l : List (Int × Int)) : List (Nat × Nat) := l.map fun p => ((p.1 - 1).toNat, (p.2 - 1).toNat)

theorem accI_accN {n : Int} {l : List (Int × Int)} (h : allOk n l) : accI (accN l) = l := by
  unfold accI accN
  rw [List.map_map]
  refine (List.map_congr_left fun p hp => ?_).trans (List.map_id l)
  obtain ⟨i, hi, rfl⟩ := List.getElem_of_mem hp
  obtain ⟨h1, _, h2, _, _⟩ := h i hi
  have e : l[i]?.getD (0, 0) = l[i] := by simp [hi]
  rw [e] at h1 h2
  simp only [Function.comp, id]
  refine Prod.ext ?_ ?_ <;> simp only <;> omega

theorem accN_ok {n : Nat} {l : List (Int × Int)} (h : allOk (n : Int) l) : ∀ p ∈ accN l, p.1 < n ∧ p.2 < n ∧ p.1 ≠ p.2 := by
  intro p hp
  unfold accN at hp
  obtain ⟨q, hq, rfl⟩ := List.mem_map.1 hp
  obtain ⟨i, hi, rfl⟩ := List.getElem_of_mem hq
  obtain ⟨h1, h2, h3, h4, h5⟩ := h i hi
  have e : l[i]?.getD (0, 0) = l[i] := by simp [hi]
  rw [e] at h1 h2 h3 h4 h5
  refine ⟨?_, ?_, ?_⟩ <;> simp only <;> omega

theorem law5_any (F : Interp) (n t s p q : Int) (A : Option Addr) (b off c : Nat) (l : List (Int × Int)) (w : World) (hF : F.answers w.tape) (ht : TabAt w) (hA : 0 < l.length → A = some ⟨b, off, none⟩) (h : IPAt w b off l) :
    Calls Tryf.prog 5 #[.int .i64 n, .int .i64 t, .int .i64 s, .slice A l.length c, .int .i64 p, .int .i64 q] w fun e w' => e = .returned (.bool true) ∧ Below w.heap.size w w' := by
  by_cases hl : 65536 < l.length
  · exact law5_long n t s p q A l.length c w hl
  by_cases hg : (headOk n t s ∧ allOk n l) ∧ (1 ≤ p ∧ p ≤ n) ∧ 1 ≤ q ∧ q ≤ n
  · obtain ⟨⟨⟨h1, h2, h3, h4, h5, h6⟩, hok⟩, ⟨h7, h8⟩, h9, h10⟩ := hg
    obtain ⟨n', rfl⟩ : ∃ n' : Nat, n = (n' : Int) := ⟨n.toNat, by omega⟩
    obtain ⟨t', rfl⟩ : ∃ t' : Nat, t = (t' : Int) := ⟨t.toNat, by omega⟩
    obtain ⟨s', rfl⟩ : ∃ s' : Nat, s = (s' : Int) + 1 := ⟨(s - 1).toNat, by omega⟩
    obtain ⟨p', rfl⟩ : ∃ p' : Nat, p = (p' : Int) + 1 := ⟨(p - 1).toNat, by omega⟩
    obtain ⟨q', rfl⟩ : ∃ q' : Nat, q = (q' : Int) + 1 := ⟨(q - 1).toNat, by omega⟩
    have hacc := accN_ok hok
    obtain ⟨acc, hac⟩ : ∃ acc, accN l = acc := ⟨_, rfl⟩
    have hl2 := accI_accN hok
    rw [hac] at hacc hl2
    subst hl2
    rw [accI_length] at hA hl ⊢
    exact law5_good F n' t' s' p' q' ((n' + 63) / 64) A b off c acc w hF ht hA h (by omega) (by omega) (by omega) (by omega) (by omega) (by omega) (by omega) rfl hacc
  · exact law5_bad n t s p q A b off c l w hA h (by omega) hg

set_option maxRecDepth 100000 in
theorem viewAgrees_lifted (os : Os) (started : os.Started) (H : Type) (enc : TypeId × Value → H) :
    ReturnsInTold none {} Tryf.checked os 5 .any Input.okWide ((OpenSpec.ofChange Rows.fnViewAgreesAcrossPartiesAndAccusationOrderSpec).preRow enc Tryf.prog Tryf.f5 [] false Rows.fnViewAgreesAcrossPartiesAndAccusationOrderRow.laid) (fun F => ((OpenSpec.ofChange Rows.fnViewAgreesAcrossPartiesAndAccusationOrderSpec).at F.told).post enc Tryf.prog Tryf.f5 false true false false) (aloneAtReturn Tryf.prog) nothingAlways := by
  refine returnsInTold_of_row (C := Tryf.checked) (s := OpenSpec.ofChange Rows.fnViewAgreesAcrossPartiesAndAccusationOrderSpec) (by kernel_rfl) Tryf.own started (by kernel_rfl) Tryf.func5
    (OpenSpec.witness_stopped_at (enc := enc) (C := Tryf.checked) false (laidWorld os) #[.int .i64 0, .int .i64 0, .int .i64 0, .slice none 0 0, .int .i64 0, .int .i64 0] rfl (by kernel_rfl) (by kernel_rfl) (by kernel_rfl)
      (OpenSpec.preRow_of_B rfl 8 (by kernel_rfl) (by kernel_rfl) (laid_met os _))) ?_
  intro F W base args ds gs before _ hF hval0 hW _ _ _ hL _
  have hval : ∀ (j : Nat) t v, Tryf.f5.params[j]? = some t → args[j]? = some v → Value.okWide Tryf.prog W .any base t v := hval0
  have hW' := hW
  obtain ⟨p, q, hA0, hV, rfl, hfz, hnd⟩ := hW
  have hA : DataW.TrodAll enc Tryf.prog W 0 (fun _ => true) true Tryf.f5.params.toList args.toList ds p := hA0
  rw [Tryf.params5] at hA hval
  obtain ⟨v0, v1, v2, v3, v4, v5, d0, d1, d2, d3, d4, d5, p0, p1, p2, p3, p4, p5, rfl, rfl, rfl, h0, h1, h2, h3, h4, h5⟩ := trodAll_six hA
  obtain ⟨rfl, rfl⟩ := trodVars_none hV
  have h3k := h3
  obtain ⟨n, rfl, rfl, rfl, w0⟩ := open_int Tryf.underlying3 (hval 0 3 v0 rfl rfl) h0
  obtain ⟨t, rfl, rfl, rfl, w1⟩ := open_int Tryf.underlying3 (hval 1 3 v1 rfl rfl) h1
  obtain ⟨s, rfl, rfl, rfl, w2⟩ := open_int Tryf.underlying3 (hval 2 3 v2 rfl rfl) h2
  obtain ⟨A, b, off, c, l, rfl, hAd, hIP⟩ := open_acc (hval 3 27 v3 rfl rfl) h3
  obtain ⟨pp, rfl, rfl, rfl, w4⟩ := open_int Tryf.underlying3 (hval 4 3 v4 rfl rfl) h4
  obtain ⟨qq, rfl, rfl, rfl, w5⟩ := open_int Tryf.underlying3 (hval 5 3 v5 rfl rfl) h5
  clear hA0 hval0
  simp only [List.append_nil, List.nil_append] at hW'
  have hlt : ∀ x ∈ p3, x.block < W.heap.size := fun x hx => by simpa using hW'.lt x (by simp [hx])
  refine (law5_any F.told n t s pp qq A b off c l W hF (laid_tab hL) hAd hIP).mono fun e W' ⟨he, hb⟩ => ?_
  subst he
  refine ⟨_, rfl, _, _, _, [], p3, [], hW', ?_, ?_, rfl, hb.frame _, fun h => by cases h⟩
  · exact trodAll_mk1 (shut_bool Tryf.underlying4 true)
  · have := trodAll_mk6 (shut_int Tryf.underlying3 w0) (shut_int Tryf.underlying3 w1) (shut_int Tryf.underlying3 w2) (Below.trod Tryf.laidOut (by kernel_rfl) (of_decide_eq_true (by kernel_rfl)) h3k hb hlt) (shut_int Tryf.underlying3 w4) (shut_int Tryf.underlying3 w5)
    simp only [List.nil_append, List.append_nil] at this
    exact this

theorem viewAgrees_told : Rows.FnViewAgreesAcrossPartiesAndAccusationOrderToldSaid :=
  Claim7.holds_of_told_tied_any_at .later 5 Tryf.f5 "fmt.Sprintf" ["fmt.errorf"] [] _ _ _ _ _ (by kernel_rfl) rfl rfl rfl Tryf.laidOut (by kernel_rfl) rfl ⟨rfl, rfl, rfl, rfl, rfl, rfl, rfl⟩ rfl rfl (by kernel_rfl) (by kernel_rfl) Tryf.func5 (by kernel_rfl)
    (of_decide_eq_true (by kernel_rfl)) (of_decide_eq_true (by kernel_rfl)) Tryf.stopsAre.symm rfl Tryf.stopKnobsAre.symm (by kernel_rfl)
    (by kernel_rfl) (by kernel_rfl) (by kernel_rfl) (by kernel_rfl) (by kernel_rfl) (by kernel_rfl) (by kernel_rfl) (by kernel_rfl) (by kernel_rfl) rfl (by kernel_rfl) rfl rfl
    rfl rfl
    rfl (by kernel_rfl) (by kernel_rfl) (by kernel_rfl) (by decide) (by kernel_rfl) fnViewAgreesAcrossPartiesAndAccusationOrder_row_tie
    (OpenClaim.moreEntering_of (by kernel_rfl) (by kernel_rfl) (by kernel_rfl) (by kernel_rfl) (by kernel_rfl) (by kernel_rfl) (by kernel_rfl) (by kernel_rfl) (by kernel_rfl) (by kernel_rfl))
    ⟨_, WideRow.started_initial, Tryf.quietAt _⟩
    (fun os started _ H enc _ => viewAgrees_lifted os started H enc)

end Go.Proofs.Qxb6615834aFmt
