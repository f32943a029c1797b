/-
  DERIVED. GIVEN WITH THE SEED: THE CARDS: each row of YoefzwDoorRows.lean that lists a variable, with what it lists TIED to the program's text (the seventh form; the later family's looks); each row that meets fmt, with fmt's text TOLD by the authors' own Lean function (tested against real Go, not proved from fmt's source: count such statements apart). THE CARD IS WHAT COUNTS. Prove the row's statement (the work); the ties are given (YoefzwDoorTie.lean); close each card by the builder's one call (the guide's Derived/Test/ToyasCard.lean, 'card_holds'). Laid BY PROGRAM, IN A SANDBOX (cutbox-door.mjs). By AI agents, Wed Nov 11 2026. No macro, syntax, notation, axiom, sorry.
-/
import Derived.Test.YoefzwDoorRows
import GoSem.ClaimSeven
namespace Go.Proofs.YoefzwDoor
namespace Rows

/-- THE TIED CARD OF 'zzlaws_root_b1.FnIntStringIsDecimal'. -/
def fnIntStringIsDecimalCard : Claim7 := { stood := { row := fnIntStringIsDecimalRow, standIns := [], harness := (true, "4f66653ead9126b283836535d01777838ff947e25f4381c829c71900040f41e2"), looks := false }, kinds := [], alts := [], laidByText := true, laidKinds := [.data, .data, .data], laidTests := true, laidLooks := .later }
def FnIntStringIsDecimalCardSaid : Prop := Claim7.holds Efzg.pinned (.plain (OpenSpec.ofChange fnIntStringIsDecimalSpec)) fnIntStringIsDecimalCard

/-- THE TIED CARD OF 'zzlaws_root_b1.FnIntStringParsesBack'. -/
def fnIntStringParsesBackCard : Claim7 := { stood := { row := fnIntStringParsesBackRow, standIns := [], harness := (true, "4f66653ead9126b283836535d01777838ff947e25f4381c829c71900040f41e2"), looks := false }, kinds := [], alts := [], laidByText := true, laidKinds := [.data, .data, .data], laidTests := true, laidLooks := .later }
def FnIntStringParsesBackCardSaid : Prop := Claim7.holds Efzg.pinned (.plain (OpenSpec.ofChange fnIntStringParsesBackSpec)) fnIntStringParsesBackCard
end Rows
end Go.Proofs.YoefzwDoor
