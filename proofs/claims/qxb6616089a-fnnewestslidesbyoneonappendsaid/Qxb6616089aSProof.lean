/-
  The statement FnNewestSlidesByOneOnAppendSaid.
-/
import Derived.Test.Qxb6616089aOpen
import Derived.Test.Qxb6616089aLawS
import Derived.Lib.SmallJoins
namespace Go.Proofs.Qxb6616089a
open Go.ChangeShapes Go.WideShapes Go.ChangeAt Go.RowKit Go.Joins

set_option maxRecDepth 100000 in
theorem slides_lifted (os : Os) (started : os.Started) (H : Type) (enc : TypeId × Value → H) :
    ReturnsInHanded {} Try.checked os 4 .any (Rows.fnNewestSlidesByOneOnAppendSpec.pre6 enc Try.prog Try.f4 Rows.fnNewestSlidesByOneOnAppendRow.domain false) (Rows.fnNewestSlidesByOneOnAppendSpec.post enc Try.prog Try.f4 false true false false) := by
  refine returnsInHanded_of_change (C := Try.checked) Try.own started (by kernel_rfl) Try.func4
    (ChangeSpec.witness6 (enc := enc) (C := Try.checked) false ⟨#[], #[.slice none 0 0, .agg #[.int .u64 0, .int .u64 0]], []⟩ 8 (by kernel_rfl) (by kernel_rfl) (by kernel_rfl) (by kernel_rfl)) ?_
  intro W base args ds gs before hval0 hW hcnd _
  have hval : ∀ (j : Nat) t v, Try.f4.params[j]? = some t → args[j]? = some v → Value.okWide Try.prog W .any base t v := hval0
  have hW' := hW
  obtain ⟨p, q, hA0, hV, rfl, hfz, hnd⟩ := hW
  have hA : DataW.TrodAll enc Try.prog W 0 (fun _ => true) true Try.f4.params.toList args.toList ds p := hA0
  rw [Try.params4] at hA hval
  obtain ⟨v0, v1, d0, d1, p0, p1, rfl, rfl, rfl, h0, h1⟩ := trodAll_two hA
  obtain ⟨rfl, rfl⟩ := trodVars_none hV
  have h0k := h0
  have h1k := h1
  obtain ⟨A, b, off, n, cap, F, L, rfl, hAd, hnil, hR⟩ := open_ranges (hval 0 22 v0 rfl rfl) h0
  obtain ⟨c0, c1, y0, y1, m, rfl, _, _, hy0, hy1⟩ := open_agg2 Try.underlying26 (by kernel_rfl) Try.cells26 (hval 1 26 v1 rfl rfl) h1
  obtain ⟨x, e0, _, _⟩ := DataW.trod_int Try.underlying24 hy0
  obtain ⟨y, e1, _, _⟩ := DataW.trod_int Try.underlying24 hy1
  simp at e0 e1
  subst e0 e1
  clear hA0 hval0
  simp only [List.append_nil] at hW'
  have hlt0 : ∀ x ∈ p0, x.block < W.heap.size := fun x hx => by simpa using hW'.lt x (by simp [hx])
  have hlt1 : ∀ x ∈ p1, x.block < W.heap.size := fun x hx => by simpa using hW'.lt x (by simp [hx])
  refine (lawS_any A b off n cap F L x y W hAd hR hnil).mono fun e W' ⟨he, hb⟩ => ?_
  subst he
  refine ⟨_, rfl, _, _, _, [], p0 ++ p1, [], hW', ?_, ?_, rfl, hb.frame _, fun h => by cases h⟩
  · exact trodAll_mk1 (shut_bool Try.underlying4 true)
  · exact trodAll_mk2 (Below.trod Try.laidOut (by kernel_rfl) (of_decide_eq_true (by kernel_rfl)) h0k hb hlt0) (Below.trod Try.laidOut (by kernel_rfl) (of_decide_eq_true (by kernel_rfl)) h1k hb hlt1)

theorem slides_holds : Rows.FnNewestSlidesByOneOnAppendSaid :=
  OpenClaim.holds_of_wide 4 Try.f4 rfl rfl rfl rfl rfl rfl rfl ⟨rfl, rfl, rfl, rfl, rfl⟩ rfl rfl rfl rfl rfl (by kernel_rfl) Try.func4 (by kernel_rfl)
    (of_decide_eq_true (by kernel_rfl)) (by unfold Func.isWrapper; first | (rw [if_pos (by decide +kernel)]; kernel_rfl) | (rw [if_neg (by decide +kernel)]; exact ⟨rfl, rfl⟩))
    (fun os started H enc _ => slides_lifted os started H enc)

end Go.Proofs.Qxb6616089a
