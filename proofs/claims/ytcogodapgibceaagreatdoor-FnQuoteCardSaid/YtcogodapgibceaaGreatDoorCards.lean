/-
  DERIVED. GIVEN WITH THE SEED: THE CARDS: each row of YtcogodapgibceaaGreatDoorRows.lean that lists a variable, with what it lists TIED to the program's text (the seventh form; the later family's looks); each row that meets fmt, with fmt's text TOLD by the authors' own Lean function (tested against real Go, not proved from fmt's source: count such statements apart). THE CARD IS WHAT COUNTS. Prove the row's statement (the work); the ties are given (YtcogodapgibceaaGreatDoorTie.lean); close each card by the builder's one call (the guide's Derived/Test/ToyasCard.lean, 'card_holds'). Laid BY PROGRAM, IN A SANDBOX (cutbox-door.mjs). By AI agents, Wed Nov 11 2026. No macro, syntax, notation, axiom, sorry.
-/
import Derived.Test.YtcogodapgibceaaGreatDoorRows
import GoSem.ClaimSeven
namespace Go.Proofs.YtcogodapgibceaaGreatDoor
namespace Rows

/-- THE TIED CARD OF 'laws.FnQuote'. -/
def fnQuoteCard : Claim7 := { stood := { row := fnQuoteRow, standIns := [], harness := (true, "1c0d120c7cdbd632b19c575c4077a6b65330e59c6b77a9796b5906e5fe358b87"), looks := true }, kinds := [], alts := [], laidByText := true, laidKinds := [.data, .data, .data, .data, .data, .pinned, .pinned, .pinned, .pinned, .pinned, .pinned, .pinned, .pinned], laidTests := true, laidLooks := .later }
def FnQuoteCardSaid : Prop := Claim7.holds Tryz.pinned (.plain (OpenSpec.ofChange fnQuoteSpec)) fnQuoteCard

/-- THE SECOND FORM's CARD OF 'laws.FnQuote'. -/
def fnQuoteUptoCard : Claim7 := { stood := { row := fnQuoteUptoRow, standIns := [], harness := (true, "1c0d120c7cdbd632b19c575c4077a6b65330e59c6b77a9796b5906e5fe358b87"), looks := true }, kinds := [], alts := [], laidByText := true, laidKinds := [.data, .data, .data, .data, .data, .pinned, .pinned, .pinned, .pinned, .pinned, .pinned, .pinned, .pinned], laidTests := true, laidLooks := .later }
def FnQuoteUptoCardSaid : Prop := Claim7.holds Tryz.pinned (.plain (OpenSpec.upto fnQuoteSpec)) fnQuoteUptoCard
end Rows
end Go.Proofs.YtcogodapgibceaaGreatDoor
