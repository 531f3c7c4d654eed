/-
  DERIVED. GIVEN WITH THE SEED: THE CARDS: each row of Qxb6615834aFmtRows.lean that lists a variable, with what it lists TIED to the program's text (the seventh form; the later family's looks); each row that meets fmt, with fmt's text TOLD by the authors' own Lean function (tested against real Go, not proved from fmt's source: count such statements apart). THE CARD IS WHAT COUNTS. Prove the row's statement (the work); the ties are given (Qxb6615834aFmtTie.lean); close each card by the builder's one call (the guide's Derived/Test/ToyasCard.lean, 'card_holds'). Laid BY PROGRAM, IN A SANDBOX (cutbox-door.mjs). By AI agents, Wed Nov 11 2026. No macro, syntax, notation, axiom, sorry.
-/
import Derived.Test.Qxb6615834aFmtRows
import GoSem.ClaimSeven
namespace Go.Proofs.Qxb6615834aFmt
namespace Rows

/-- THE TOLD CARD OF 'zzlaws_root_b1.FnIsPartyAgreesWithCheckPartyAndMirror'. -/
def fnIsPartyAgreesWithCheckPartyAndMirrorCard : Claim7 := { stood := { row := fnIsPartyAgreesWithCheckPartyAndMirrorRow, standIns := [], harness := (true, "5808f7e226d266e15f6f091aa74009725ceb226abc430b641e16e68d06299323"), looks := false }, told := true, goes := false }
def FnIsPartyAgreesWithCheckPartyAndMirrorToldSaid : Prop := Claim7.holds Tryf.pinned (.plain (OpenSpec.ofChange fnIsPartyAgreesWithCheckPartyAndMirrorSpec)) fnIsPartyAgreesWithCheckPartyAndMirrorCard
/-- ITS FALSE NEIGHBOUR. Refute it at one input. -/
def FnIsPartyAgreesWithCheckPartyAndMirrorToldWrongFalsely : Prop := Claim7.holds Tryf.pinned (.plain (OpenSpec.ofChange fnIsPartyAgreesWithCheckPartyAndMirrorWrong)) fnIsPartyAgreesWithCheckPartyAndMirrorCard

/-- THE TOLD AND TIED CARD OF 'zzlaws_root_b1.FnViewMatchesPruningModel'. -/
def fnViewMatchesPruningModelCard : Claim7 := { stood := { row := fnViewMatchesPruningModelRow, standIns := [], harness := (true, "5808f7e226d266e15f6f091aa74009725ceb226abc430b641e16e68d06299323"), looks := false }, told := true, laidByText := true, laidKinds := [.data], laidTests := true, laidLooks := .later, goes := false }
def FnViewMatchesPruningModelToldSaid : Prop := Claim7.holds Tryf.pinned (.plain (OpenSpec.ofChange fnViewMatchesPruningModelSpec)) fnViewMatchesPruningModelCard
/-- ITS FALSE NEIGHBOUR. Refute it at one input. -/
def FnViewMatchesPruningModelToldWrongFalsely : Prop := Claim7.holds Tryf.pinned (.plain (OpenSpec.ofChange fnViewMatchesPruningModelWrong)) fnViewMatchesPruningModelCard

/-- THE TOLD AND TIED CARD OF 'zzlaws_root_b1.FnViewAgreesAcrossPartiesAndAccusationOrder'. -/
def fnViewAgreesAcrossPartiesAndAccusationOrderCard : Claim7 := { stood := { row := fnViewAgreesAcrossPartiesAndAccusationOrderRow, standIns := [], harness := (true, "5808f7e226d266e15f6f091aa74009725ceb226abc430b641e16e68d06299323"), looks := false }, told := true, laidByText := true, laidKinds := [.data], laidTests := true, laidLooks := .later, goes := false }
def FnViewAgreesAcrossPartiesAndAccusationOrderToldSaid : Prop := Claim7.holds Tryf.pinned (.plain (OpenSpec.ofChange fnViewAgreesAcrossPartiesAndAccusationOrderSpec)) fnViewAgreesAcrossPartiesAndAccusationOrderCard
/-- ITS FALSE NEIGHBOUR. Refute it at one input. -/
def FnViewAgreesAcrossPartiesAndAccusationOrderToldWrongFalsely : Prop := Claim7.holds Tryf.pinned (.plain (OpenSpec.ofChange fnViewAgreesAcrossPartiesAndAccusationOrderWrong)) fnViewAgreesAcrossPartiesAndAccusationOrderCard
end Rows
end Go.Proofs.Qxb6615834aFmt
