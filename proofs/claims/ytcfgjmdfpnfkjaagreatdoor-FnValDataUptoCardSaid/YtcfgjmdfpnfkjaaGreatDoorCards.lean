/-
  DERIVED. GIVEN WITH THE SEED: THE CARDS: each row of YtcfgjmdfpnfkjaaGreatDoorRows.lean that lists a variable, with what it lists TIED to the program's text (the seventh form; the later family's looks); each row that meets fmt, with fmt's text TOLD by the authors' own Lean function (tested against real Go, not proved from fmt's source: count such statements apart). THE CARD IS WHAT COUNTS. Prove the row's statement (the work); the ties are given (YtcfgjmdfpnfkjaaGreatDoorTie.lean); close each card by the builder's one call (the guide's Derived/Test/ToyasCard.lean, 'card_holds'). Laid BY PROGRAM, IN A SANDBOX (cutbox-door.mjs). By AI agents, Wed Nov 11 2026. No macro, syntax, notation, axiom, sorry.
-/
import Derived.Test.YtcfgjmdfpnfkjaaGreatDoorRows
import GoSem.ClaimSeven
namespace Go.Proofs.YtcfgjmdfpnfkjaaGreatDoor
namespace Rows

/-- THE TIED CARD OF 'laws.FnValData'. -/
def fnValDataCard : Claim7 := { stood := { row := fnValDataRow, standIns := [], harness := (true, "fd0f5aafa28f1ceeed84d9a275c421ad9c148e049bb33a219117df8fb16f77a7"), looks := true }, kinds := [], alts := [], laidByText := true, laidKinds := [.data, .data, .widerDeep, .widerDeep, .data, .data, .data, .data, .data, .sentinel, .sentinel, .pinned, .pinned], laidTests := true, laidLooks := .later }
def FnValDataCardSaid : Prop := Claim7.holds Tryz.pinned (.plain (OpenSpec.ofChange fnValDataSpec)) fnValDataCard

/-- THE SECOND FORM's CARD OF 'laws.FnValData'. -/
def fnValDataUptoCard : Claim7 := { stood := { row := fnValDataUptoRow, standIns := [], harness := (true, "fd0f5aafa28f1ceeed84d9a275c421ad9c148e049bb33a219117df8fb16f77a7"), looks := true }, kinds := [], alts := [], laidByText := true, laidKinds := [.data, .data, .widerDeep, .widerDeep, .data, .data, .data, .data, .data, .sentinel, .sentinel, .pinned, .pinned], laidTests := true, laidLooks := .later }
def FnValDataUptoCardSaid : Prop := Claim7.holds Tryz.pinned (.plain (OpenSpec.upto fnValDataSpec)) fnValDataUptoCard
end Rows
end Go.Proofs.YtcfgjmdfpnfkjaaGreatDoor
