/-
  DERIVED. GIVEN WITH THE SEED: THE CARDS: each row of YtcedefabmelogaaGreatDoorRows.lean that lists a variable, with what it lists TIED to the program's text (the seventh form; the later family's looks); each row that meets fmt, with fmt's text TOLD by the authors' own Lean function (tested against real Go, not proved from fmt's source: count such statements apart). THE CARD IS WHAT COUNTS. Prove the row's statement (the work); the ties are given (YtcedefabmelogaaGreatDoorTie.lean); close each card by the builder's one call (the guide's Derived/Test/ToyasCard.lean, 'card_holds'). Laid BY PROGRAM, IN A SANDBOX (cutbox-door.mjs). By AI agents, Wed Nov 11 2026. No macro, syntax, notation, axiom, sorry.
-/
import Derived.Test.YtcedefabmelogaaGreatDoorRows
import GoSem.ClaimSeven
namespace Go.Proofs.YtcedefabmelogaaGreatDoor
namespace Rows

/-- THE TIED CARD OF 'laws.FnAllowed'. -/
def fnAllowedCard : Claim7 := { stood := { row := fnAllowedRow, standIns := [], harness := (true, "a47b4828965c9724ee2b7c130caa3a1949b137a6293a9b0d0f5c041cc4fb326b"), looks := false }, kinds := [], alts := [], laidByText := true, laidKinds := [.data, .data, .pinned, .pinned], laidTests := true, laidLooks := .later }
def FnAllowedCardSaid : Prop := Claim7.holds Tryz.pinned (.plain (OpenSpec.ofChange fnAllowedSpec)) fnAllowedCard

/-- THE SECOND FORM's CARD OF 'laws.FnAllowed'. -/
def fnAllowedUptoCard : Claim7 := { stood := { row := fnAllowedUptoRow, standIns := [], harness := (true, "a47b4828965c9724ee2b7c130caa3a1949b137a6293a9b0d0f5c041cc4fb326b"), looks := false }, kinds := [], alts := [], laidByText := true, laidKinds := [.data, .data, .pinned, .pinned], laidTests := true, laidLooks := .later }
def FnAllowedUptoCardSaid : Prop := Claim7.holds Tryz.pinned (.plain (OpenSpec.upto fnAllowedSpec)) fnAllowedUptoCard
end Rows
end Go.Proofs.YtcedefabmelogaaGreatDoor
