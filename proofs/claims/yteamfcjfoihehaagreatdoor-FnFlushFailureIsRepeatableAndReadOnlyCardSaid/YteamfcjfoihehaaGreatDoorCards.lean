/-
  DERIVED. GIVEN WITH THE SEED: THE CARDS: each row of YteamfcjfoihehaaGreatDoorRows.lean that lists a variable, with what it lists TIED to the program's text (the seventh form; the later family's looks); each row that meets fmt, with fmt's text TOLD by the authors' own Lean function (tested against real Go, not proved from fmt's source: count such statements apart). THE CARD IS WHAT COUNTS. Prove the row's statement (the work); the ties are given (YteamfcjfoihehaaGreatDoorTie.lean); close each card by the builder's one call (the guide's Derived/Test/ToyasCard.lean, 'card_holds'). Laid BY PROGRAM, IN A SANDBOX (cutbox-door.mjs). By AI agents, Wed Nov 11 2026. No macro, syntax, notation, axiom, sorry.
-/
import Derived.Test.YteamfcjfoihehaaGreatDoorRows
import GoSem.ClaimSeven
namespace Go.Proofs.YteamfcjfoihehaaGreatDoor
namespace Rows

/-- THE TIED CARD OF 'n011_173.FnFlushFailureIsRepeatableAndReadOnly'. -/
def fnFlushFailureIsRepeatableAndReadOnlyCard : Claim7 := { stood := { row := fnFlushFailureIsRepeatableAndReadOnlyRow, standIns := [], harness := (true, "d6b6d37b4611c03791bcb7b03ca665ea9c1b4798fa7e34f540ed710df4a83956"), looks := false }, kinds := [], alts := [], laidByText := true, laidKinds := [.data, .pinned], laidTests := true, laidLooks := .later }
def FnFlushFailureIsRepeatableAndReadOnlyCardSaid : Prop := Claim7.holds Tryz.pinned (.plain (OpenSpec.ofChange fnFlushFailureIsRepeatableAndReadOnlySpec)) fnFlushFailureIsRepeatableAndReadOnlyCard

/-- THE SECOND FORM's CARD OF 'n011_173.FnFlushFailureIsRepeatableAndReadOnly'. -/
def fnFlushFailureIsRepeatableAndReadOnlyUptoCard : Claim7 := { stood := { row := fnFlushFailureIsRepeatableAndReadOnlyUptoRow, standIns := [], harness := (true, "d6b6d37b4611c03791bcb7b03ca665ea9c1b4798fa7e34f540ed710df4a83956"), looks := false }, kinds := [], alts := [], laidByText := true, laidKinds := [.data, .pinned], laidTests := true, laidLooks := .later }
def FnFlushFailureIsRepeatableAndReadOnlyUptoCardSaid : Prop := Claim7.holds Tryz.pinned (.plain (OpenSpec.upto fnFlushFailureIsRepeatableAndReadOnlySpec)) fnFlushFailureIsRepeatableAndReadOnlyUptoCard
end Rows
end Go.Proofs.YteamfcjfoihehaaGreatDoor
