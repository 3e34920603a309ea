/-
  DERIVED. GIVEN WITH THE SEED: THE CARDS: each row of Qxb6600278aDoorRows.lean that lists a variable, with what it lists TIED to the program's text (the seventh form; the later family's looks); each row that meets fmt, with fmt's text TOLD by the authors' own Lean function (tested against real Go, not proved from fmt's source: count such statements apart). THE CARD IS WHAT COUNTS. Prove the row's statement (the work); the ties are given (Qxb6600278aDoorTie.lean); close each card by the builder's one call (the guide's Derived/Test/ToyasCard.lean, 'card_holds'). Laid BY PROGRAM, IN A SANDBOX (cutbox-door.mjs). By AI agents, Wed Nov 11 2026. No macro, syntax, notation, axiom, sorry.
-/
import Derived.Test.Qxb6600278aDoorRows
import GoSem.ClaimSeven
namespace Go.Proofs.Qxb6600278aDoor
namespace Rows

/-- THE TIED CARD OF 'zzlaws_message_b1.FnParseLengthModel'. -/
def fnParseLengthModelCard : Claim7 := { stood := { row := fnParseLengthModelRow, standIns := [], harness := (true, "34425e97545460ad4c38be10ed7c2ac3bfa4cae09a445b3e2d9854f624ecbbd4"), looks := true }, kinds := [], alts := [], laidByText := true, laidKinds := [.data, .data, .data, .sentinel, .sentinel], laidTests := true, laidLooks := .later }
def FnParseLengthModelCardSaid : Prop := Claim7.holds Tryd.pinned (.plain (OpenSpec.ofChange fnParseLengthModelSpec)) fnParseLengthModelCard

/-- THE TIED CARD OF 'zzlaws_message_b1.FnParseLengthRoundTrip'. -/
def fnParseLengthRoundTripCard : Claim7 := { stood := { row := fnParseLengthRoundTripRow, standIns := [], harness := (true, "34425e97545460ad4c38be10ed7c2ac3bfa4cae09a445b3e2d9854f624ecbbd4"), looks := true }, kinds := [], alts := [], laidByText := true, laidKinds := [.data, .data, .data, .sentinel, .sentinel], laidTests := true, laidLooks := .later }
def FnParseLengthRoundTripCardSaid : Prop := Claim7.holds Tryd.pinned (.plain (OpenSpec.ofChange fnParseLengthRoundTripSpec)) fnParseLengthRoundTripCard

/-- THE TIED CARD OF 'zzlaws_message_b1.FnChunkSizeModel'. -/
def fnChunkSizeModelCard : Claim7 := { stood := { row := fnChunkSizeModelRow, standIns := [], harness := (true, "34425e97545460ad4c38be10ed7c2ac3bfa4cae09a445b3e2d9854f624ecbbd4"), looks := true }, kinds := [], alts := [], laidByText := true, laidKinds := [.data, .data, .data, .data, .sentinel, .sentinel, .pinned], laidTests := true, laidLooks := .later }
def FnChunkSizeModelCardSaid : Prop := Claim7.holds Tryd.pinned (.plain (OpenSpec.ofChange fnChunkSizeModelSpec)) fnChunkSizeModelCard

/-- THE TIED CARD OF 'zzlaws_message_b1.FnChunkSizeHexRoundTrip'. -/
def fnChunkSizeHexRoundTripCard : Claim7 := { stood := { row := fnChunkSizeHexRoundTripRow, standIns := [], harness := (true, "34425e97545460ad4c38be10ed7c2ac3bfa4cae09a445b3e2d9854f624ecbbd4"), looks := true }, kinds := [], alts := [], laidByText := true, laidKinds := [.data, .data, .data, .data, .sentinel, .sentinel, .pinned], laidTests := true, laidLooks := .later }
def FnChunkSizeHexRoundTripCardSaid : Prop := Claim7.holds Tryd.pinned (.plain (OpenSpec.ofChange fnChunkSizeHexRoundTripSpec)) fnChunkSizeHexRoundTripCard

/-- THE TIED CARD OF 'zzlaws_message_b1.FnChunkSizeCaseFree'. -/
def fnChunkSizeCaseFreeCard : Claim7 := { stood := { row := fnChunkSizeCaseFreeRow, standIns := [], harness := (true, "34425e97545460ad4c38be10ed7c2ac3bfa4cae09a445b3e2d9854f624ecbbd4"), looks := true }, kinds := [], alts := [], laidByText := true, laidKinds := [.data, .data, .data, .data, .sentinel, .sentinel, .pinned], laidTests := true, laidLooks := .later }
def FnChunkSizeCaseFreeCardSaid : Prop := Claim7.holds Tryd.pinned (.plain (OpenSpec.ofChange fnChunkSizeCaseFreeSpec)) fnChunkSizeCaseFreeCard
end Rows
end Go.Proofs.Qxb6600278aDoor
