/-
  No cell of these rows narrows 'for every input' (looked for: loops, veiled, ifaces, maps, wideKeys, modest, calm, conditions, laid).
  DERIVED. THE GIVEN ROWS OF THIS SEAT. 2 by the template 'for every input the law returns true; each argument reads behind the call as it read before'; 0 by the template 'total and deterministic' (their statements: Qxb6615834aTotals.lean).
  GIVEN WITH THE SEED: the statements are not yours to turn. If you find one false, say at which input.
  Laid BY PROGRAM, IN A SANDBOX (cutbox-rows.mjs): the forced cells as the released guide's own fill.sh prints them over the translation ec9f28509de4a2bf… (all of the seat's roots in one cut). By AI agents, Wed Nov 11 2026. No macro, syntax, notation, axiom, sorry.
-/
import Derived.Test.Qxb6615834aChecked
import GoSem.Claim
import GoSem.ClaimJoined
import GoSem.ClaimMapViews
import Derived.JoinedTies
import Derived.KernelRfl
namespace Go.Proofs.Qxb6615834a
/- THE CELL 'sum', in the pinned program and in every row, IS THE sha256 OF THE DUMP (.gsa) THAT Qxb6615834aProg.lean LOADS. Nothing in Lean hashes anything: it is a label: what it is worth is what the hold of that sum in a sandbox is worth. -/
noncomputable def Try.pinned : Pinned := { name := "qxb6615834a", sum := "ec9f28509de4a2bfb7207642c4e14571e7615b7c88d728653f2599cd8b9c8e6a", checked := Try.checked }
namespace Rows
def none {H : Type} : Left H := { results := [], args := [] }

/-- 'zzlaws_root_b1.FnACRouterJoinsAtAnyCut': WHATEVER THE INPUT: true; the input reads as it did. -/
def fnACRouterJoinsAtAnyCutSpec : ChangeSpec := { name := "fnACRouterJoinsAtAnyCut", fn := fun _ => fun
  | [d1, d2, d3] => { results := [.lit (.bool true)], args := [d1, d2, d3] }
  | _ => none }
def fnACRouterJoinsAtAnyCutRow : OpenClaim := { program := "qxb6615834a", sum := "ec9f28509de4a2bfb7207642c4e14571e7615b7c88d728653f2599cd8b9c8e6a", func := "example.com/roundstone/roundstone/zzlaws_root_b1.FnACRouterJoinsAtAnyCut", spec := "fnACRouterJoinsAtAnyCut", plainKeys := false, apart := false }
def FnACRouterJoinsAtAnyCutSaid : Prop := fnACRouterJoinsAtAnyCutRow.holds Try.pinned (OpenSpec.ofChange fnACRouterJoinsAtAnyCutSpec)

/-- ITS FALSE NEIGHBOUR: 'it returns false'. Refute it at one input. -/
def fnACRouterJoinsAtAnyCutWrong : ChangeSpec := { name := "fnACRouterJoinsAtAnyCut", fn := fun _ => fun
  | [d1, d2, d3] => { results := [.lit (.bool false)], args := [d1, d2, d3] }
  | _ => none }
def FnACRouterJoinsAtAnyCutWrongFalsely : Prop := fnACRouterJoinsAtAnyCutRow.holds Try.pinned (OpenSpec.ofChange fnACRouterJoinsAtAnyCutWrong)

/-- 'zzlaws_root_b1.FnACRouterPlaceLeadsBackToItsInstance': WHATEVER THE INPUT: true; the input reads as it did. -/
def fnACRouterPlaceLeadsBackToItsInstanceSpec : ChangeSpec := { name := "fnACRouterPlaceLeadsBackToItsInstance", fn := fun _ => fun
  | [d1, d2] => { results := [.lit (.bool true)], args := [d1, d2] }
  | _ => none }
def fnACRouterPlaceLeadsBackToItsInstanceRow : OpenClaim := { program := "qxb6615834a", sum := "ec9f28509de4a2bfb7207642c4e14571e7615b7c88d728653f2599cd8b9c8e6a", func := "example.com/roundstone/roundstone/zzlaws_root_b1.FnACRouterPlaceLeadsBackToItsInstance", spec := "fnACRouterPlaceLeadsBackToItsInstance", plainKeys := false, apart := false }
def FnACRouterPlaceLeadsBackToItsInstanceSaid : Prop := fnACRouterPlaceLeadsBackToItsInstanceRow.holds Try.pinned (OpenSpec.ofChange fnACRouterPlaceLeadsBackToItsInstanceSpec)

/-- ITS FALSE NEIGHBOUR: 'it returns false'. Refute it at one input. -/
def fnACRouterPlaceLeadsBackToItsInstanceWrong : ChangeSpec := { name := "fnACRouterPlaceLeadsBackToItsInstance", fn := fun _ => fun
  | [d1, d2] => { results := [.lit (.bool false)], args := [d1, d2] }
  | _ => none }
def FnACRouterPlaceLeadsBackToItsInstanceWrongFalsely : Prop := fnACRouterPlaceLeadsBackToItsInstanceRow.holds Try.pinned (OpenSpec.ofChange fnACRouterPlaceLeadsBackToItsInstanceWrong)

end Rows
end Go.Proofs.Qxb6615834a
