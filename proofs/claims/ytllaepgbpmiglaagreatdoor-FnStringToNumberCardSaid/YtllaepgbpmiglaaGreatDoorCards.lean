/-
  DERIVED. GIVEN WITH THE SEED: THE CARDS: each row of YtllaepgbpmiglaaGreatDoorRows.lean that lists a variable, with what it lists TIED to the program's text (the seventh form; the later family's looks); each row that meets fmt, with fmt's text TOLD by the authors' own Lean function (tested against real Go, not proved from fmt's source: count such statements apart). THE CARD IS WHAT COUNTS. Prove the row's statement (the work); the ties are given (YtllaepgbpmiglaaGreatDoorTie.lean); close each card by the builder's one call (the guide's Derived/Test/ToyasCard.lean, 'card_holds'). Laid BY PROGRAM, IN A SANDBOX (cutbox-door.mjs). By AI agents, Wed Nov 11 2026. No macro, syntax, notation, axiom, sorry.
-/
import Derived.Test.YtllaepgbpmiglaaGreatDoorRows
import GoSem.ClaimSeven
namespace Go.Proofs.YtllaepgbpmiglaaGreatDoor
namespace Rows

/-- THE TIED CARD OF 'laws.FnStringToNumber'. -/
def fnStringToNumberCard : Claim7 := { stood := { row := fnStringToNumberRow, standIns := [], harness := (true, "286daba5276167437b66beeb420dafddecb315667dcc8cd8bcb921269b20a12e"), looks := true }, kinds := [], alts := [], laidByText := true, laidKinds := [.data, .data, .widerDeep, .widerDeep, .data, .data, .data, .data, .data, .data, .sentinel, .sentinel, .pinned, .pinned, .pinned], laidTests := true, laidLooks := .later }
def FnStringToNumberCardSaid : Prop := Claim7.holds Tryz.pinned (.plain (OpenSpec.ofChange fnStringToNumberSpec)) fnStringToNumberCard

/-- THE SECOND FORM's CARD OF 'laws.FnStringToNumber'. -/
def fnStringToNumberUptoCard : Claim7 := { stood := { row := fnStringToNumberUptoRow, standIns := [], harness := (true, "286daba5276167437b66beeb420dafddecb315667dcc8cd8bcb921269b20a12e"), looks := true }, kinds := [], alts := [], laidByText := true, laidKinds := [.data, .data, .widerDeep, .widerDeep, .data, .data, .data, .data, .data, .data, .sentinel, .sentinel, .pinned, .pinned, .pinned], laidTests := true, laidLooks := .later }
def FnStringToNumberUptoCardSaid : Prop := Claim7.holds Tryz.pinned (.plain (OpenSpec.upto fnStringToNumberSpec)) fnStringToNumberUptoCard
end Rows
end Go.Proofs.YtllaepgbpmiglaaGreatDoor
