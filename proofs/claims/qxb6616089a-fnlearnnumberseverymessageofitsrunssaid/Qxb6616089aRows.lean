/-
  No cell of these rows narrows 'for every input' (looked for: loops, veiled, ifaces, maps, wideKeys, modest, calm, conditions, laid).
  DERIVED. THE GIVEN ROWS OF THIS SEAT. 3 by the template 'for every input the law returns true; each argument reads behind the call as it read before'; 0 by the template 'total and deterministic' (their statements: Qxb6616089aTotals.lean).
  GIVEN WITH THE SEED: the statements are not yours to turn. If you find one false, say at which input.
  Laid BY PROGRAM, IN A SANDBOX (cutbox-rows.mjs): the forced cells as the released guide's own fill.sh prints them over the translation dc59c98de9b3f4da… (all of the seat's roots in one cut). By AI agents, Wed Nov 11 2026. No macro, syntax, notation, axiom, sorry.
-/
import Derived.Test.Qxb6616089aChecked
import GoSem.Claim
import GoSem.ClaimJoined
import GoSem.ClaimMapViews
import Derived.JoinedTies
import Derived.KernelRfl
namespace Go.Proofs.Qxb6616089a
/- THE CELL 'sum', in the pinned program and in every row, IS THE sha256 OF THE DUMP (.gsa) THAT Qxb6616089aProg.lean LOADS. Nothing in Lean hashes anything: it is a label: what it is worth is what the hold of that sum in a sandbox is worth. -/
noncomputable def Try.pinned : Pinned := { name := "qxb6616089a", sum := "dc59c98de9b3f4da28711dcfcb294864b228fc33c6ab60baa34117625c93f771", checked := Try.checked }
namespace Rows
def none {H : Type} : Left H := { results := [], args := [] }

/-- 'zzlaws_root_b1.FnNewestOfJoinedEndsWithNewestOfTail': WHATEVER THE INPUT: true; the input reads as it did. -/
def fnNewestOfJoinedEndsWithNewestOfTailSpec : ChangeSpec := { name := "fnNewestOfJoinedEndsWithNewestOfTail", fn := fun _ => fun
  | [d1, d2] => { results := [.lit (.bool true)], args := [d1, d2] }
  | _ => none }
def fnNewestOfJoinedEndsWithNewestOfTailRow : OpenClaim := { program := "qxb6616089a", sum := "dc59c98de9b3f4da28711dcfcb294864b228fc33c6ab60baa34117625c93f771", func := "example.com/murmurcast/murmurcast/zzlaws_root_b1.FnNewestOfJoinedEndsWithNewestOfTail", spec := "fnNewestOfJoinedEndsWithNewestOfTail", apart := false }
def FnNewestOfJoinedEndsWithNewestOfTailSaid : Prop := fnNewestOfJoinedEndsWithNewestOfTailRow.holds Try.pinned (OpenSpec.ofChange fnNewestOfJoinedEndsWithNewestOfTailSpec)

/-- ITS FALSE NEIGHBOUR: 'it returns false'. Refute it at one input. -/
def fnNewestOfJoinedEndsWithNewestOfTailWrong : ChangeSpec := { name := "fnNewestOfJoinedEndsWithNewestOfTail", fn := fun _ => fun
  | [d1, d2] => { results := [.lit (.bool false)], args := [d1, d2] }
  | _ => none }
def FnNewestOfJoinedEndsWithNewestOfTailWrongFalsely : Prop := fnNewestOfJoinedEndsWithNewestOfTailRow.holds Try.pinned (OpenSpec.ofChange fnNewestOfJoinedEndsWithNewestOfTailWrong)

/-- 'zzlaws_root_b1.FnNewestSlidesByOneOnAppend': WHATEVER THE INPUT: true; the input reads as it did. -/
def fnNewestSlidesByOneOnAppendSpec : ChangeSpec := { name := "fnNewestSlidesByOneOnAppend", fn := fun _ => fun
  | [d1, d2] => { results := [.lit (.bool true)], args := [d1, d2] }
  | _ => none }
def fnNewestSlidesByOneOnAppendRow : OpenClaim := { program := "qxb6616089a", sum := "dc59c98de9b3f4da28711dcfcb294864b228fc33c6ab60baa34117625c93f771", func := "example.com/murmurcast/murmurcast/zzlaws_root_b1.FnNewestSlidesByOneOnAppend", spec := "fnNewestSlidesByOneOnAppend", apart := false }
def FnNewestSlidesByOneOnAppendSaid : Prop := fnNewestSlidesByOneOnAppendRow.holds Try.pinned (OpenSpec.ofChange fnNewestSlidesByOneOnAppendSpec)

/-- ITS FALSE NEIGHBOUR: 'it returns false'. Refute it at one input. -/
def fnNewestSlidesByOneOnAppendWrong : ChangeSpec := { name := "fnNewestSlidesByOneOnAppend", fn := fun _ => fun
  | [d1, d2] => { results := [.lit (.bool false)], args := [d1, d2] }
  | _ => none }
def FnNewestSlidesByOneOnAppendWrongFalsely : Prop := fnNewestSlidesByOneOnAppendRow.holds Try.pinned (OpenSpec.ofChange fnNewestSlidesByOneOnAppendWrong)

/-- 'zzlaws_root_b1.FnLearnNumbersEveryMessageOfItsRuns': WHATEVER THE INPUT: true; the input reads as it did. -/
def fnLearnNumbersEveryMessageOfItsRunsSpec : ChangeSpec := { name := "fnLearnNumbersEveryMessageOfItsRuns", fn := fun _ => fun
  | [d1, d2, d3, d4, d5, d6, d7] => { results := [.lit (.bool true)], args := [d1, d2, d3, d4, d5, d6, d7] }
  | _ => none }
def fnLearnNumbersEveryMessageOfItsRunsRow : OpenClaim := { program := "qxb6616089a", sum := "dc59c98de9b3f4da28711dcfcb294864b228fc33c6ab60baa34117625c93f771", func := "example.com/murmurcast/murmurcast/zzlaws_root_b1.FnLearnNumbersEveryMessageOfItsRuns", spec := "fnLearnNumbersEveryMessageOfItsRuns", apart := false }
def FnLearnNumbersEveryMessageOfItsRunsSaid : Prop := fnLearnNumbersEveryMessageOfItsRunsRow.holds Try.pinned (OpenSpec.ofChange fnLearnNumbersEveryMessageOfItsRunsSpec)

/-- ITS FALSE NEIGHBOUR: 'it returns false'. Refute it at one input. -/
def fnLearnNumbersEveryMessageOfItsRunsWrong : ChangeSpec := { name := "fnLearnNumbersEveryMessageOfItsRuns", fn := fun _ => fun
  | [d1, d2, d3, d4, d5, d6, d7] => { results := [.lit (.bool false)], args := [d1, d2, d3, d4, d5, d6, d7] }
  | _ => none }
def FnLearnNumbersEveryMessageOfItsRunsWrongFalsely : Prop := fnLearnNumbersEveryMessageOfItsRunsRow.holds Try.pinned (OpenSpec.ofChange fnLearnNumbersEveryMessageOfItsRunsWrong)

end Rows
end Go.Proofs.Qxb6616089a
