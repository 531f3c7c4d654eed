/-
  NARROWER THAN 'FOR EVERY INPUT', by the rows' own cells (each row's printed sentence says how): FnViewMatchesPruningModel: laid · FnViewAgreesAcrossPartiesAndAccusationOrder: laid.
  DERIVED. THE GIVEN ROWS OF THIS SEAT. 3 by the template 'for every input the law returns true; each argument reads behind the call as it read before'; 0 by the template 'total and deterministic' (their statements: Qxb6615834aFmtTotals.lean).
  GIVEN WITH THE SEED: the statements are not yours to turn. If you find one false, say at which input.
  Laid BY PROGRAM, IN A SANDBOX (cutbox-rows.mjs): the forced cells as the released guide's own fill.sh prints them over the translation c37c6e90a5d00969… (all of the seat's roots in one cut). By AI agents, Wed Nov 11 2026. No macro, syntax, notation, axiom, sorry.
-/
import Derived.Test.Qxb6615834aFmtChecked
import GoSem.Claim
import GoSem.ClaimJoined
import GoSem.ClaimMapViews
import Derived.JoinedTies
import Derived.KernelRfl
namespace Go.Proofs.Qxb6615834aFmt
/- THE CELL 'sum', in the pinned program and in every row, IS THE sha256 OF THE DUMP (.gsa) THAT Qxb6615834aFmtProg.lean LOADS. Nothing in Lean hashes anything: it is a label: what it is worth is what the hold of that sum in a sandbox is worth. -/
noncomputable def Tryf.pinned : Pinned := { name := "qxb6615834afmt", sum := "c37c6e90a5d00969bc21ed8aaee18801dd8d729c8f8b270bd9095993c1971c98", checked := Tryf.checked }
namespace Rows
def none {H : Type} : Left H := { results := [], args := [] }

/- WHAT THE LISTED PACKAGE-LEVEL VARIABLES READ AS WHEN THE CALL BEGINS. Each datum BY PROGRAM (the guide's laid-datum.mjs) off the statement by which the dump's own 'gosem.cut.vars' lays the variable. In a bare row this is a premise. The card (Qxb6615834aFmtCards.lean) ties it to the program's text. -/
def laid_math_bits_deBruijn64tab {H : Type} : DataW H := .agg [.lit (.int .u8 0), .lit (.int .u8 1), .lit (.int .u8 56), .lit (.int .u8 2), .lit (.int .u8 57), .lit (.int .u8 49), .lit (.int .u8 28), .lit (.int .u8 3), .lit (.int .u8 61), .lit (.int .u8 58), .lit (.int .u8 42), .lit (.int .u8 50), .lit (.int .u8 38), .lit (.int .u8 29), .lit (.int .u8 17), .lit (.int .u8 4), .lit (.int .u8 62), .lit (.int .u8 47), .lit (.int .u8 59), .lit (.int .u8 36), .lit (.int .u8 45), .lit (.int .u8 43), .lit (.int .u8 51), .lit (.int .u8 22), .lit (.int .u8 53), .lit (.int .u8 39), .lit (.int .u8 33), .lit (.int .u8 30), .lit (.int .u8 24), .lit (.int .u8 18), .lit (.int .u8 12), .lit (.int .u8 5), .lit (.int .u8 63), .lit (.int .u8 55), .lit (.int .u8 48), .lit (.int .u8 27), .lit (.int .u8 60), .lit (.int .u8 41), .lit (.int .u8 37), .lit (.int .u8 16), .lit (.int .u8 46), .lit (.int .u8 35), .lit (.int .u8 44), .lit (.int .u8 21), .lit (.int .u8 52), .lit (.int .u8 32), .lit (.int .u8 23), .lit (.int .u8 11), .lit (.int .u8 54), .lit (.int .u8 26), .lit (.int .u8 40), .lit (.int .u8 15), .lit (.int .u8 34), .lit (.int .u8 20), .lit (.int .u8 31), .lit (.int .u8 10), .lit (.int .u8 25), .lit (.int .u8 14), .lit (.int .u8 19), .lit (.int .u8 9), .lit (.int .u8 13), .lit (.int .u8 8), .lit (.int .u8 7), .lit (.int .u8 6)]

/-- 'zzlaws_root_b1.FnIsPartyAgreesWithCheckPartyAndMirror': WHATEVER THE INPUT: true; the input reads as it did. -/
def fnIsPartyAgreesWithCheckPartyAndMirrorSpec : ChangeSpec := { name := "fnIsPartyAgreesWithCheckPartyAndMirror", fn := fun _ => fun
  | [d1, d2] => { results := [.lit (.bool true)], args := [d1, d2] }
  | _ => none }
def fnIsPartyAgreesWithCheckPartyAndMirrorRow : OpenClaim := { program := "qxb6615834afmt", sum := "c37c6e90a5d00969bc21ed8aaee18801dd8d729c8f8b270bd9095993c1971c98", func := "example.com/roundstone/roundstone/zzlaws_root_b1.FnIsPartyAgreesWithCheckPartyAndMirror", spec := "fnIsPartyAgreesWithCheckPartyAndMirror", stops := ["fmt.Sprintf", "fmt.errorf"], inPlace := ["fmt.errorf"], apart := false }
/-- NO THEOREM (fmt's text is open here; it may be false): for the released tool's asking of the row's closed facts alone. THE STATEMENT IS 'FnIsPartyAgreesWithCheckPartyAndMirrorToldSaid' (Qxb6615834aFmtCards.lean). -/
def FnIsPartyAgreesWithCheckPartyAndMirrorFormAsk : Prop := fnIsPartyAgreesWithCheckPartyAndMirrorRow.holds Tryf.pinned (OpenSpec.ofChange fnIsPartyAgreesWithCheckPartyAndMirrorSpec)

/-- ITS FALSE NEIGHBOUR: 'it returns false'. Refute it at one input. -/
def fnIsPartyAgreesWithCheckPartyAndMirrorWrong : ChangeSpec := { name := "fnIsPartyAgreesWithCheckPartyAndMirror", fn := fun _ => fun
  | [d1, d2] => { results := [.lit (.bool false)], args := [d1, d2] }
  | _ => none }
def FnIsPartyAgreesWithCheckPartyAndMirrorWrongFormAsk : Prop := fnIsPartyAgreesWithCheckPartyAndMirrorRow.holds Tryf.pinned (OpenSpec.ofChange fnIsPartyAgreesWithCheckPartyAndMirrorWrong)

/-- 'zzlaws_root_b1.FnViewMatchesPruningModel': WHATEVER THE INPUT: true; the input reads as it did. -/
def fnViewMatchesPruningModelSpec : ChangeSpec := { name := "fnViewMatchesPruningModel", fn := fun _ => fun
  | [d1, d2, d3, d4, d5] => { results := [.lit (.bool true)], args := [d1, d2, d3, d4, d5] }
  | _ => none }
def fnViewMatchesPruningModelRow : OpenClaim := { program := "qxb6615834afmt", sum := "c37c6e90a5d00969bc21ed8aaee18801dd8d729c8f8b270bd9095993c1971c98", func := "example.com/roundstone/roundstone/zzlaws_root_b1.FnViewMatchesPruningModel", spec := "fnViewMatchesPruningModel", stops := ["fmt.Sprintf", "fmt.errorf"], inPlace := ["fmt.errorf", "fmt.Sprintf"], unfollowed := true, recurses := true, named := ["math/bits.deBruijn64tab"], apart := false, laid := [("math/bits.deBruijn64tab", laid_math_bits_deBruijn64tab)] }
/-- NO THEOREM (fmt's text is open here; it may be false): for the released tool's asking of the row's closed facts alone. THE STATEMENT IS 'FnViewMatchesPruningModelToldSaid' (Qxb6615834aFmtCards.lean). -/
def FnViewMatchesPruningModelFormAsk : Prop := fnViewMatchesPruningModelRow.holds Tryf.pinned (OpenSpec.ofChange fnViewMatchesPruningModelSpec)

/-- ITS FALSE NEIGHBOUR: 'it returns false'. Refute it at one input. -/
def fnViewMatchesPruningModelWrong : ChangeSpec := { name := "fnViewMatchesPruningModel", fn := fun _ => fun
  | [d1, d2, d3, d4, d5] => { results := [.lit (.bool false)], args := [d1, d2, d3, d4, d5] }
  | _ => none }
def FnViewMatchesPruningModelWrongFormAsk : Prop := fnViewMatchesPruningModelRow.holds Tryf.pinned (OpenSpec.ofChange fnViewMatchesPruningModelWrong)

/-- 'zzlaws_root_b1.FnViewAgreesAcrossPartiesAndAccusationOrder': WHATEVER THE INPUT: true; the input reads as it did. -/
def fnViewAgreesAcrossPartiesAndAccusationOrderSpec : ChangeSpec := { name := "fnViewAgreesAcrossPartiesAndAccusationOrder", fn := fun _ => fun
  | [d1, d2, d3, d4, d5, d6] => { results := [.lit (.bool true)], args := [d1, d2, d3, d4, d5, d6] }
  | _ => none }
def fnViewAgreesAcrossPartiesAndAccusationOrderRow : OpenClaim := { program := "qxb6615834afmt", sum := "c37c6e90a5d00969bc21ed8aaee18801dd8d729c8f8b270bd9095993c1971c98", func := "example.com/roundstone/roundstone/zzlaws_root_b1.FnViewAgreesAcrossPartiesAndAccusationOrder", spec := "fnViewAgreesAcrossPartiesAndAccusationOrder", stops := ["fmt.Sprintf", "fmt.errorf"], inPlace := ["fmt.errorf", "fmt.Sprintf"], unfollowed := true, recurses := true, named := ["math/bits.deBruijn64tab"], apart := false, laid := [("math/bits.deBruijn64tab", laid_math_bits_deBruijn64tab)] }
/-- NO THEOREM (fmt's text is open here; it may be false): for the released tool's asking of the row's closed facts alone. THE STATEMENT IS 'FnViewAgreesAcrossPartiesAndAccusationOrderToldSaid' (Qxb6615834aFmtCards.lean). -/
def FnViewAgreesAcrossPartiesAndAccusationOrderFormAsk : Prop := fnViewAgreesAcrossPartiesAndAccusationOrderRow.holds Tryf.pinned (OpenSpec.ofChange fnViewAgreesAcrossPartiesAndAccusationOrderSpec)

/-- ITS FALSE NEIGHBOUR: 'it returns false'. Refute it at one input. -/
def fnViewAgreesAcrossPartiesAndAccusationOrderWrong : ChangeSpec := { name := "fnViewAgreesAcrossPartiesAndAccusationOrder", fn := fun _ => fun
  | [d1, d2, d3, d4, d5, d6] => { results := [.lit (.bool false)], args := [d1, d2, d3, d4, d5, d6] }
  | _ => none }
def FnViewAgreesAcrossPartiesAndAccusationOrderWrongFormAsk : Prop := fnViewAgreesAcrossPartiesAndAccusationOrderRow.holds Tryf.pinned (OpenSpec.ofChange fnViewAgreesAcrossPartiesAndAccusationOrderWrong)

end Rows
end Go.Proofs.Qxb6615834aFmt
