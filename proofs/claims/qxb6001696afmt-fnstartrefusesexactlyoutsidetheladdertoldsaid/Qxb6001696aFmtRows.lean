/-
  No cell of these rows narrows 'for every input' (looked for: loops, veiled, ifaces, maps, wideKeys, modest, calm, conditions, laid).
  DERIVED. THE GIVEN ROWS OF THIS SEAT. 3 by the template 'for every input the law returns true; each argument reads behind the call as it read before'; 0 by the template 'total and deterministic' (their statements: Qxb6001696aFmtTotals.lean).
  GIVEN WITH THE SEED: the statements are not yours to turn. If you find one false, say at which input.
  Laid BY PROGRAM, IN A SANDBOX (cutbox-rows.mjs): the forced cells as the released guide's own fill.sh prints them over the translation e5dea2e87845e751… (all of the seat's roots in one cut). By AI agents, Wed Nov 11 2026. No macro, syntax, notation, axiom, sorry.
-/
import Derived.Test.Qxb6001696aFmtChecked
import GoSem.Claim
import GoSem.ClaimJoined
import GoSem.ClaimMapViews
import Derived.JoinedTies
import Derived.KernelRfl
namespace Go.Proofs.Qxb6001696aFmt
/- THE CELL 'sum', in the pinned program and in every row, IS THE sha256 OF THE DUMP (.gsa) THAT Qxb6001696aFmtProg.lean LOADS. Nothing in Lean hashes anything: it is a label: what it is worth is what the hold of that sum in a sandbox is worth. -/
noncomputable def Tryf.pinned : Pinned := { name := "qxb6001696afmt", sum := "e5dea2e87845e7512712f9d74d55dbd40df5df9f1d73b40ab84cc7d7d8d887ad", checked := Tryf.checked }
namespace Rows
def none {H : Type} : Left H := { results := [], args := [] }

/-- 'zzlaws_internal_verdict_e1.FnStartRefusesExactlyOutsideTheLadder': WHATEVER THE INPUT: true; the input reads as it did. -/
def fnStartRefusesExactlyOutsideTheLadderSpec : ChangeSpec := { name := "fnStartRefusesExactlyOutsideTheLadder", fn := fun _ => fun
  | [d1, d2, d3, d4, d5, d6, d7] => { results := [.lit (.bool true)], args := [d1, d2, d3, d4, d5, d6, d7] }
  | _ => none }
def fnStartRefusesExactlyOutsideTheLadderRow : OpenClaim := { program := "qxb6001696afmt", sum := "e5dea2e87845e7512712f9d74d55dbd40df5df9f1d73b40ab84cc7d7d8d887ad", func := "example.com/tsktsk/tsktsk/zzlaws_internal_verdict_e1.FnStartRefusesExactlyOutsideTheLadder", spec := "fnStartRefusesExactlyOutsideTheLadder", stops := ["fmt.errorf"], inPlace := ["fmt.errorf"], unfollowed := true, recurses := true, apart := false }
/-- NO THEOREM (fmt's text is open here; it may be false): for the released tool's asking of the row's closed facts alone. THE STATEMENT IS 'FnStartRefusesExactlyOutsideTheLadderToldSaid' (Qxb6001696aFmtCards.lean). -/
def FnStartRefusesExactlyOutsideTheLadderFormAsk : Prop := fnStartRefusesExactlyOutsideTheLadderRow.holds Tryf.pinned (OpenSpec.ofChange fnStartRefusesExactlyOutsideTheLadderSpec)

/-- ITS FALSE NEIGHBOUR: 'it returns false'. Refute it at one input. -/
def fnStartRefusesExactlyOutsideTheLadderWrong : ChangeSpec := { name := "fnStartRefusesExactlyOutsideTheLadder", fn := fun _ => fun
  | [d1, d2, d3, d4, d5, d6, d7] => { results := [.lit (.bool false)], args := [d1, d2, d3, d4, d5, d6, d7] }
  | _ => none }
def FnStartRefusesExactlyOutsideTheLadderWrongFormAsk : Prop := fnStartRefusesExactlyOutsideTheLadderRow.holds Tryf.pinned (OpenSpec.ofChange fnStartRefusesExactlyOutsideTheLadderWrong)

/-- 'zzlaws_internal_verdict_e1.FnStartIsIdempotentAndOrderFree': WHATEVER THE INPUT: true; the input reads as it did. -/
def fnStartIsIdempotentAndOrderFreeSpec : ChangeSpec := { name := "fnStartIsIdempotentAndOrderFree", fn := fun _ => fun
  | [d1, d2, d3, d4, d5, d6, d7, d8] => { results := [.lit (.bool true)], args := [d1, d2, d3, d4, d5, d6, d7, d8] }
  | _ => none }
def fnStartIsIdempotentAndOrderFreeRow : OpenClaim := { program := "qxb6001696afmt", sum := "e5dea2e87845e7512712f9d74d55dbd40df5df9f1d73b40ab84cc7d7d8d887ad", func := "example.com/tsktsk/tsktsk/zzlaws_internal_verdict_e1.FnStartIsIdempotentAndOrderFree", spec := "fnStartIsIdempotentAndOrderFree", stops := ["fmt.errorf"], inPlace := ["fmt.errorf"], unfollowed := true, recurses := true, apart := false }
/-- NO THEOREM (fmt's text is open here; it may be false): for the released tool's asking of the row's closed facts alone. THE STATEMENT IS 'FnStartIsIdempotentAndOrderFreeToldSaid' (Qxb6001696aFmtCards.lean). -/
def FnStartIsIdempotentAndOrderFreeFormAsk : Prop := fnStartIsIdempotentAndOrderFreeRow.holds Tryf.pinned (OpenSpec.ofChange fnStartIsIdempotentAndOrderFreeSpec)

/-- ITS FALSE NEIGHBOUR: 'it returns false'. Refute it at one input. -/
def fnStartIsIdempotentAndOrderFreeWrong : ChangeSpec := { name := "fnStartIsIdempotentAndOrderFree", fn := fun _ => fun
  | [d1, d2, d3, d4, d5, d6, d7, d8] => { results := [.lit (.bool false)], args := [d1, d2, d3, d4, d5, d6, d7, d8] }
  | _ => none }
def FnStartIsIdempotentAndOrderFreeWrongFormAsk : Prop := fnStartIsIdempotentAndOrderFreeRow.holds Tryf.pinned (OpenSpec.ofChange fnStartIsIdempotentAndOrderFreeWrong)

/-- 'zzlaws_internal_verdict_e1.FnStartClimbsWithComplexity': WHATEVER THE INPUT: true; the input reads as it did. -/
def fnStartClimbsWithComplexitySpec : ChangeSpec := { name := "fnStartClimbsWithComplexity", fn := fun _ => fun
  | [d1, d2, d3, d4, d5, d6, d7, d8] => { results := [.lit (.bool true)], args := [d1, d2, d3, d4, d5, d6, d7, d8] }
  | _ => none }
def fnStartClimbsWithComplexityRow : OpenClaim := { program := "qxb6001696afmt", sum := "e5dea2e87845e7512712f9d74d55dbd40df5df9f1d73b40ab84cc7d7d8d887ad", func := "example.com/tsktsk/tsktsk/zzlaws_internal_verdict_e1.FnStartClimbsWithComplexity", spec := "fnStartClimbsWithComplexity", stops := ["fmt.errorf"], inPlace := ["fmt.errorf"], unfollowed := true, recurses := true, apart := false }
/-- NO THEOREM (fmt's text is open here; it may be false): for the released tool's asking of the row's closed facts alone. THE STATEMENT IS 'FnStartClimbsWithComplexityToldSaid' (Qxb6001696aFmtCards.lean). -/
def FnStartClimbsWithComplexityFormAsk : Prop := fnStartClimbsWithComplexityRow.holds Tryf.pinned (OpenSpec.ofChange fnStartClimbsWithComplexitySpec)

/-- ITS FALSE NEIGHBOUR: 'it returns false'. Refute it at one input. -/
def fnStartClimbsWithComplexityWrong : ChangeSpec := { name := "fnStartClimbsWithComplexity", fn := fun _ => fun
  | [d1, d2, d3, d4, d5, d6, d7, d8] => { results := [.lit (.bool false)], args := [d1, d2, d3, d4, d5, d6, d7, d8] }
  | _ => none }
def FnStartClimbsWithComplexityWrongFormAsk : Prop := fnStartClimbsWithComplexityRow.holds Tryf.pinned (OpenSpec.ofChange fnStartClimbsWithComplexityWrong)

end Rows
end Go.Proofs.Qxb6001696aFmt
