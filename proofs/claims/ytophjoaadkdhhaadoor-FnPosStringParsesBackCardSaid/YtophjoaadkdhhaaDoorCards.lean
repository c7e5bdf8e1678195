/-
  DERIVED. GIVEN WITH THE SEED: THE CARDS: each row of YtophjoaadkdhhaaDoorRows.lean that lists a variable, with what it lists TIED to the program's text (the seventh form; the later family's looks); each row that meets fmt, with fmt's text TOLD by the authors' own Lean function (tested against real Go, not proved from fmt's source: count such statements apart). THE CARD IS WHAT COUNTS. Prove the row's statement (the work); the ties are given (YtophjoaadkdhhaaDoorTie.lean); close each card by the builder's one call (the guide's Derived/Test/ToyasCard.lean, 'card_holds'). Laid BY PROGRAM, IN A SANDBOX (cutbox-door.mjs). By AI agents, Wed Nov 11 2026. No macro, syntax, notation, axiom, sorry.
-/
import Derived.Test.YtophjoaadkdhhaaDoorRows
import GoSem.ClaimSeven
namespace Go.Proofs.YtophjoaadkdhhaaDoor
namespace Rows

/-- THE TIED CARD OF 'n010_10.FnPosStringParsesBack'. -/
def fnPosStringParsesBackCard : Claim7 := { stood := { row := fnPosStringParsesBackRow, standIns := [], harness := (true, "50228f0a168db913daaf3b5fbee3e02f5f08f0db3370c1b03041b95a56d3871e"), looks := false }, kinds := [], alts := [], laidByText := true, laidKinds := [.data, .data, .data], laidTests := true, laidLooks := .later }
def FnPosStringParsesBackCardSaid : Prop := Claim7.holds Tryd.pinned (.plain (OpenSpec.ofChange fnPosStringParsesBackSpec)) fnPosStringParsesBackCard

/-- THE SECOND FORM's CARD OF 'n010_10.FnPosStringParsesBack'. -/
def fnPosStringParsesBackUptoCard : Claim7 := { stood := { row := fnPosStringParsesBackUptoRow, standIns := [], harness := (true, "50228f0a168db913daaf3b5fbee3e02f5f08f0db3370c1b03041b95a56d3871e"), looks := false }, kinds := [], alts := [], laidByText := true, laidKinds := [.data, .data, .data], laidTests := true, laidLooks := .later }
def FnPosStringParsesBackUptoCardSaid : Prop := Claim7.holds Tryd.pinned (.plain (OpenSpec.upto fnPosStringParsesBackSpec)) fnPosStringParsesBackUptoCard
end Rows
end Go.Proofs.YtophjoaadkdhhaaDoor
