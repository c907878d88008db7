/-
  DERIVED. GIVEN WITH THE SEED: THE CARDS: each row of YtgkjdgolffnagaaGreatDoorRows.lean that lists a variable, with what it lists TIED to the program's text (the seventh form; the later family's looks); each row that meets fmt, with fmt's text TOLD by the authors' own Lean function (tested against real Go, not proved from fmt's source: count such statements apart). THE CARD IS WHAT COUNTS. Prove the row's statement (the work); the ties are given (YtgkjdgolffnagaaGreatDoorTie.lean); close each card by the builder's one call (the guide's Derived/Test/ToyasCard.lean, 'card_holds'). Laid BY PROGRAM, IN A SANDBOX (cutbox-door.mjs). By AI agents, Wed Nov 11 2026. No macro, syntax, notation, axiom, sorry.
-/
import Derived.Test.YtgkjdgolffnagaaGreatDoorRows
import GoSem.ClaimSeven
namespace Go.Proofs.YtgkjdgolffnagaaGreatDoor
namespace Rows

/-- THE TIED CARD OF 'laws.FnJTellUnique'. -/
def fnJTellUniqueCard : Claim7 := { stood := { row := fnJTellUniqueRow, standIns := [], harness := (true, "32b34802333bc9d8e58597043a5fd873fc75577eec1b2e3617f6770556c7f1a5"), looks := true }, kinds := [], alts := [], laidByText := true, laidKinds := [.data, .data, .data], laidTests := true, laidLooks := .later }
def FnJTellUniqueCardSaid : Prop := Claim7.holds Tryz.pinned (.plain (OpenSpec.ofChange fnJTellUniqueSpec)) fnJTellUniqueCard

/-- THE SECOND FORM's CARD OF 'laws.FnJTellUnique'. -/
def fnJTellUniqueUptoCard : Claim7 := { stood := { row := fnJTellUniqueUptoRow, standIns := [], harness := (true, "32b34802333bc9d8e58597043a5fd873fc75577eec1b2e3617f6770556c7f1a5"), looks := true }, kinds := [], alts := [], laidByText := true, laidKinds := [.data, .data, .data], laidTests := true, laidLooks := .later }
def FnJTellUniqueUptoCardSaid : Prop := Claim7.holds Tryz.pinned (.plain (OpenSpec.upto fnJTellUniqueSpec)) fnJTellUniqueUptoCard
end Rows
end Go.Proofs.YtgkjdgolffnagaaGreatDoor
