/-
  The statement FnLearnNumbersEveryMessageOfItsRunsSaid.
-/
import Derived.Test.Qxb6616089aOpen3
import Derived.Test.Qxb6616089aLawL
import Derived.OpenShut
namespace Go.Proofs.Qxb6616089a
open Go.ChangeShapes Go.WideShapes Go.ChangeAt Go.RowKit

set_option maxRecDepth 100000 in
theorem learn_lifted (os : Os) (started : os.Started) (H : Type) (enc : TypeId × Value → H) :
    ReturnsInHanded {} Try.checked os 5 .any (Rows.fnLearnNumbersEveryMessageOfItsRunsSpec.pre6 enc Try.prog Try.f5 Rows.fnLearnNumbersEveryMessageOfItsRunsRow.domain false) (Rows.fnLearnNumbersEveryMessageOfItsRunsSpec.post enc Try.prog Try.f5 false true false false) := by
  refine returnsInHanded_of_change (C := Try.checked) Try.own started (by kernel_rfl) Try.func5
    (ChangeSpec.witness6 (enc := enc) (C := Try.checked) false ⟨#[], #[.int .u64 0, .int .u64 0, .slice none 0 0, .int .u64 0, .int .u64 0, .slice none 0 0, .slice none 0 0], []⟩ 8 (by kernel_rfl) (by kernel_rfl) (by kernel_rfl) (by kernel_rfl)) ?_
  intro W base args ds gs before hval0 hW hcnd _
  have hval : ∀ (j : Nat) t v, Try.f5.params[j]? = some t → args[j]? = some v → Value.okWide Try.prog W .any base t v := hval0
  have hW' := hW
  obtain ⟨p, q, hA0, hV, rfl, hfz, hnd⟩ := hW
  have hA : DataW.TrodAll enc Try.prog W 0 (fun _ => true) true Try.f5.params.toList args.toList ds p := hA0
  rw [Try.params5] at hA hval
  obtain ⟨v0, vs0, d0, ds0, p0, q0, hargs, rfl, rfl, h0, r0⟩ := trodAll_cons hA
  obtain ⟨v1, vs1, d1, ds1, p1, q1, rfl, rfl, rfl, h1, r1⟩ := trodAll_cons r0
  obtain ⟨v2, vs2, d2, ds2, p2, q2, rfl, rfl, rfl, h2, r2⟩ := trodAll_cons r1
  obtain ⟨v3, vs3, d3, ds3, p3, q3, rfl, rfl, rfl, h3, r3⟩ := trodAll_cons r2
  obtain ⟨v4, vs4, d4, ds4, p4, q4, rfl, rfl, rfl, h4, r4⟩ := trodAll_cons r3
  obtain ⟨v5, vs5, d5, ds5, p5, q5, rfl, rfl, rfl, h5, r5⟩ := trodAll_cons r4
  obtain ⟨v6, vs6, d6, ds6, p6, q6, rfl, rfl, rfl, h6, r6⟩ := trodAll_cons r5
  obtain ⟨rfl, rfl, rfl⟩ := trodAll_nil r6
  obtain rfl : args = #[v0, v1, v2, v3, v4, v5, v6] := by cases args; simp_all
  obtain ⟨rfl, rfl⟩ := trodVars_none hV
  obtain ⟨nx, rfl, rfl, rfl, w0⟩ := open_int Try.underlying24 (hval 0 24 v0 rfl rfl) h0
  obtain ⟨ps, rfl, rfl, rfl, w1⟩ := open_int Try.underlying24 (hval 1 24 v1 rfl rfl) h1
  obtain ⟨first, rfl, rfl, rfl, w3⟩ := open_int Try.underlying24 (hval 3 24 v3 rfl rfl) h3
  obtain ⟨frm, rfl, rfl, rfl, w4⟩ := open_int Try.underlying24 (hval 4 24 v4 rfl rfl) h4
  have h2k := h2
  have h5k := h5
  have h6k := h6
  obtain ⟨A1, b1, o1, nN, c1, K, S, Q, rfl, hA1, hwf, hT1⟩ := open_entries (hval 2 33 v2 rfl rfl) h2
  obtain ⟨A2, b2, o2, nR, c2, RS, RQ, C, rfl, hA2, hT2⟩ := open_runs (hval 5 34 v5 rfl rfl) h5
  obtain ⟨A3, nP, c3, rfl⟩ := okWide_slice Try.underlying35 (hval 6 35 v6 rfl rfl)
  clear hA0 hval0 hA r0 r1 r2 r3 r4 r5 r6
  have hlt : ∀ x ∈ p2 ++ (p5 ++ p6), x.block < W.heap.size := fun x hx => hW'.lt x (by simpa using hx)
  have hlt2 : ∀ x ∈ p2, x.block < W.heap.size := fun x hx => hlt x (by simp [hx])
  have hlt5 : ∀ x ∈ p5, x.block < W.heap.size := fun x hx => hlt x (by simp [hx])
  have hlt6 : ∀ x ∈ p6, x.block < W.heap.size := fun x hx => hlt x (by simp [hx])
  refine (lawL_any nx ps first frm A1 b1 o1 nN c1 K S Q A2 b2 o2 nR c2 RS RQ C A3 nP c3 W w3 hwf hA1 hT1 hA2 hT2).mono fun e W' ⟨he, hb⟩ => ?_
  subst he
  refine ⟨_, rfl, _, _, _, [], [] ++ ([] ++ (p2 ++ ([] ++ ([] ++ (p5 ++ (p6 ++ [])))))), [], hW', ?_, ?_, rfl, hb.frame _, fun h => by cases h⟩
  · exact trodAll_mk1 (shut_bool Try.underlying4 true)
  · exact trodAll_cons_mk (shut_int Try.underlying24 w0) (trodAll_cons_mk (shut_int Try.underlying24 w1)
      (trodAll_cons_mk (Below.trod Try.laidOut (by kernel_rfl) (of_decide_eq_true (by kernel_rfl)) h2k hb hlt2)
      (trodAll_cons_mk (shut_int Try.underlying24 w3) (trodAll_cons_mk (shut_int Try.underlying24 w4)
      (trodAll_cons_mk (Below.trod Try.laidOut (by kernel_rfl) (of_decide_eq_true (by kernel_rfl)) h5k hb hlt5)
      (trodAll_cons_mk (Below.trod Try.laidOut (by kernel_rfl) (of_decide_eq_true (by kernel_rfl)) h6k hb hlt6) trodAll_mk0))))))

theorem learn_holds : Rows.FnLearnNumbersEveryMessageOfItsRunsSaid :=
  OpenClaim.holds_of_wide 5 Try.f5 rfl rfl rfl rfl rfl rfl rfl ⟨rfl, rfl, rfl, rfl, rfl⟩ rfl rfl rfl rfl rfl (by kernel_rfl) Try.func5 (by kernel_rfl)
    (of_decide_eq_true (by kernel_rfl)) (by unfold Func.isWrapper; first | (rw [if_pos (by decide +kernel)]; kernel_rfl) | (rw [if_neg (by decide +kernel)]; exact ⟨rfl, rfl⟩))
    (fun os started H enc _ => learn_lifted os started H enc)

end Go.Proofs.Qxb6616089a
