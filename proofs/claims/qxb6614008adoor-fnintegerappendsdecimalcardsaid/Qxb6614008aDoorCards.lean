/-
  DERIVED. GIVEN WITH THE SEED: THE CARDS: each row of Qxb6614008aDoorRows.lean that lists a variable, with what it lists TIED to the program's text (the seventh form; the later family's looks); each row that meets fmt, with fmt's text TOLD by the authors' own Lean function (tested against real Go, not proved from fmt's source: count such statements apart). THE CARD IS WHAT COUNTS. Prove the row's statement (the work); the ties are given (Qxb6614008aDoorTie.lean); close each card by the builder's one call (the guide's Derived/Test/ToyasCard.lean, 'card_holds'). Laid BY PROGRAM, IN A SANDBOX (cutbox-door.mjs). By AI agents, Wed Nov 11 2026. No macro, syntax, notation, axiom, sorry.
-/
import Derived.Test.Qxb6614008aDoorRows
import GoSem.ClaimSeven
namespace Go.Proofs.Qxb6614008aDoor
namespace Rows

/-- THE TIED CARD OF 'zzlaws_internal_checkpoint_b1.FnIntegerAppendsDecimal'. -/
def fnIntegerAppendsDecimalCard : Claim7 := { stood := { row := fnIntegerAppendsDecimalRow, standIns := [], harness := (true, "600bc02b540f71c2bd7e0a17aab6405793d75e45ba49ca265b734a6a217fec84"), looks := false }, kinds := [], alts := [], laidByText := true, laidKinds := [.data, .data, .data], laidTests := true, laidLooks := .later }
def FnIntegerAppendsDecimalCardSaid : Prop := Claim7.holds Tryd.pinned (.plain (OpenSpec.ofChange fnIntegerAppendsDecimalSpec)) fnIntegerAppendsDecimalCard

/-- THE TIED CARD OF 'zzlaws_internal_checkpoint_b1.FnIntegerLastDigit'. -/
def fnIntegerLastDigitCard : Claim7 := { stood := { row := fnIntegerLastDigitRow, standIns := [], harness := (true, "600bc02b540f71c2bd7e0a17aab6405793d75e45ba49ca265b734a6a217fec84"), looks := false }, kinds := [], alts := [], laidByText := true, laidKinds := [.data, .data, .data], laidTests := true, laidLooks := .later }
def FnIntegerLastDigitCardSaid : Prop := Claim7.holds Tryd.pinned (.plain (OpenSpec.ofChange fnIntegerLastDigitSpec)) fnIntegerLastDigitCard
end Rows
end Go.Proofs.Qxb6614008aDoor
