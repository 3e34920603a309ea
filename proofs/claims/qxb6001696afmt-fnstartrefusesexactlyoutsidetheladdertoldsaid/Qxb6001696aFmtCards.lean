/-
  DERIVED. GIVEN WITH THE SEED: THE CARDS: each row of Qxb6001696aFmtRows.lean that lists a variable, with what it lists TIED to the program's text (the seventh form; the later family's looks); each row that meets fmt, with fmt's text TOLD by the authors' own Lean function (tested against real Go, not proved from fmt's source: count such statements apart). THE CARD IS WHAT COUNTS. Prove the row's statement (the work); the ties are given (Qxb6001696aFmtTie.lean); close each card by the builder's one call (the guide's Derived/Test/ToyasCard.lean, 'card_holds'). Laid BY PROGRAM, IN A SANDBOX (cutbox-door.mjs). By AI agents, Wed Nov 11 2026. No macro, syntax, notation, axiom, sorry.
-/
import Derived.Test.Qxb6001696aFmtRows
import GoSem.ClaimSeven
namespace Go.Proofs.Qxb6001696aFmt
namespace Rows

/-- THE TOLD CARD OF 'zzlaws_internal_verdict_e1.FnStartRefusesExactlyOutsideTheLadder'. -/
def fnStartRefusesExactlyOutsideTheLadderCard : Claim7 := { stood := { row := fnStartRefusesExactlyOutsideTheLadderRow, standIns := [], harness := (true, "84bb05a23ee80fa410660a715639d0a5d6eee6ac2d18981251458a171b29f2ae"), looks := false }, told := true, goes := false }
def FnStartRefusesExactlyOutsideTheLadderToldSaid : Prop := Claim7.holds Tryf.pinned (.plain (OpenSpec.ofChange fnStartRefusesExactlyOutsideTheLadderSpec)) fnStartRefusesExactlyOutsideTheLadderCard
/-- ITS FALSE NEIGHBOUR. Refute it at one input. -/
def FnStartRefusesExactlyOutsideTheLadderToldWrongFalsely : Prop := Claim7.holds Tryf.pinned (.plain (OpenSpec.ofChange fnStartRefusesExactlyOutsideTheLadderWrong)) fnStartRefusesExactlyOutsideTheLadderCard

/-- THE TOLD CARD OF 'zzlaws_internal_verdict_e1.FnStartIsIdempotentAndOrderFree'. -/
def fnStartIsIdempotentAndOrderFreeCard : Claim7 := { stood := { row := fnStartIsIdempotentAndOrderFreeRow, standIns := [], harness := (true, "84bb05a23ee80fa410660a715639d0a5d6eee6ac2d18981251458a171b29f2ae"), looks := false }, told := true, goes := false }
def FnStartIsIdempotentAndOrderFreeToldSaid : Prop := Claim7.holds Tryf.pinned (.plain (OpenSpec.ofChange fnStartIsIdempotentAndOrderFreeSpec)) fnStartIsIdempotentAndOrderFreeCard
/-- ITS FALSE NEIGHBOUR. Refute it at one input. -/
def FnStartIsIdempotentAndOrderFreeToldWrongFalsely : Prop := Claim7.holds Tryf.pinned (.plain (OpenSpec.ofChange fnStartIsIdempotentAndOrderFreeWrong)) fnStartIsIdempotentAndOrderFreeCard

/-- THE TOLD CARD OF 'zzlaws_internal_verdict_e1.FnStartClimbsWithComplexity'. -/
def fnStartClimbsWithComplexityCard : Claim7 := { stood := { row := fnStartClimbsWithComplexityRow, standIns := [], harness := (true, "84bb05a23ee80fa410660a715639d0a5d6eee6ac2d18981251458a171b29f2ae"), looks := false }, told := true, goes := false }
def FnStartClimbsWithComplexityToldSaid : Prop := Claim7.holds Tryf.pinned (.plain (OpenSpec.ofChange fnStartClimbsWithComplexitySpec)) fnStartClimbsWithComplexityCard
/-- ITS FALSE NEIGHBOUR. Refute it at one input. -/
def FnStartClimbsWithComplexityToldWrongFalsely : Prop := Claim7.holds Tryf.pinned (.plain (OpenSpec.ofChange fnStartClimbsWithComplexityWrong)) fnStartClimbsWithComplexityCard
end Rows
end Go.Proofs.Qxb6001696aFmt
