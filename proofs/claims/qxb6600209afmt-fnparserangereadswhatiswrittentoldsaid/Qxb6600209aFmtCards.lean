/-
  DERIVED. GIVEN WITH THE SEED: THE CARDS: each row of Qxb6600209aFmtRows.lean that lists a variable, with what it lists TIED to the program's text (the seventh form; the later family's looks); each row that meets fmt, with fmt's text TOLD by the authors' own Lean function (tested against real Go, not proved from fmt's source: count such statements apart). THE CARD IS WHAT COUNTS. Prove the row's statement (the work); the ties are given (Qxb6600209aFmtTie.lean); close each card by the builder's one call (the guide's Derived/Test/ToyasCard.lean, 'card_holds'). Laid BY PROGRAM, IN A SANDBOX (cutbox-door.mjs). By AI agents, Wed Nov 11 2026. No macro, syntax, notation, axiom, sorry.
-/
import Derived.Test.Qxb6600209aFmtRows
import GoSem.ClaimSeven
namespace Go.Proofs.Qxb6600209aFmt
namespace Rows

/-- THE TOLD AND TIED CARD OF 'zzlaws_internal_loopback_e1.FnParseRangeMatchesModel'. -/
def fnParseRangeMatchesModelCard : Claim7 := { stood := { row := fnParseRangeMatchesModelRow, standIns := [], harness := (true, "0e5eab9ecc9c1562ab8d9721dc089fc40fc4ef1afd842019e9774d266ce11b58"), looks := true }, told := true, laidByText := true, laidKinds := [.data, .data, .data, .sentinel, .sentinel, .listed, .data], laidTests := true, laidLooks := .later, goes := false }
def FnParseRangeMatchesModelToldSaid : Prop := Claim7.holds Tryf.pinned (.plain (OpenSpec.ofChange fnParseRangeMatchesModelSpec)) fnParseRangeMatchesModelCard
/-- ITS FALSE NEIGHBOUR. Refute it at one input. -/
def FnParseRangeMatchesModelToldWrongFalsely : Prop := Claim7.holds Tryf.pinned (.plain (OpenSpec.ofChange fnParseRangeMatchesModelWrong)) fnParseRangeMatchesModelCard

/-- THE TOLD AND TIED CARD OF 'zzlaws_internal_loopback_e1.FnParseRangeReadsWhatIsWritten'. -/
def fnParseRangeReadsWhatIsWrittenCard : Claim7 := { stood := { row := fnParseRangeReadsWhatIsWrittenRow, standIns := [], harness := (true, "0e5eab9ecc9c1562ab8d9721dc089fc40fc4ef1afd842019e9774d266ce11b58"), looks := true }, told := true, laidByText := true, laidKinds := [.data, .data, .data, .sentinel, .sentinel, .listed, .data], laidTests := true, laidLooks := .later, goes := false }
def FnParseRangeReadsWhatIsWrittenToldSaid : Prop := Claim7.holds Tryf.pinned (.plain (OpenSpec.ofChange fnParseRangeReadsWhatIsWrittenSpec)) fnParseRangeReadsWhatIsWrittenCard
/-- ITS FALSE NEIGHBOUR. Refute it at one input. -/
def FnParseRangeReadsWhatIsWrittenToldWrongFalsely : Prop := Claim7.holds Tryf.pinned (.plain (OpenSpec.ofChange fnParseRangeReadsWhatIsWrittenWrong)) fnParseRangeReadsWhatIsWrittenCard

/-- THE TOLD AND TIED CARD OF 'zzlaws_internal_loopback_e1.FnParseRangeIgnoresSurroundingSpace'. -/
def fnParseRangeIgnoresSurroundingSpaceCard : Claim7 := { stood := { row := fnParseRangeIgnoresSurroundingSpaceRow, standIns := [], harness := (true, "0e5eab9ecc9c1562ab8d9721dc089fc40fc4ef1afd842019e9774d266ce11b58"), looks := true }, told := true, laidByText := true, laidKinds := [.data, .data, .data, .sentinel, .sentinel, .listed, .data], laidTests := true, laidLooks := .later, goes := false }
def FnParseRangeIgnoresSurroundingSpaceToldSaid : Prop := Claim7.holds Tryf.pinned (.plain (OpenSpec.ofChange fnParseRangeIgnoresSurroundingSpaceSpec)) fnParseRangeIgnoresSurroundingSpaceCard
/-- ITS FALSE NEIGHBOUR. Refute it at one input. -/
def FnParseRangeIgnoresSurroundingSpaceToldWrongFalsely : Prop := Claim7.holds Tryf.pinned (.plain (OpenSpec.ofChange fnParseRangeIgnoresSurroundingSpaceWrong)) fnParseRangeIgnoresSurroundingSpaceCard
end Rows
end Go.Proofs.Qxb6600209aFmt
