/-
  DERIVED. GIVEN WITH THE SEED: THE CARDS: each row of YthkkhbdhminjfaaDoorRows.lean that lists a variable, with what it lists TIED to the program's text (the seventh form; the later family's looks); each row that meets fmt, with fmt's text TOLD by the authors' own Lean function (tested against real Go, not proved from fmt's source: count such statements apart). THE CARD IS WHAT COUNTS. Prove the row's statement (the work); the ties are given (YthkkhbdhminjfaaDoorTie.lean); close each card by the builder's one call (the guide's Derived/Test/ToyasCard.lean, 'card_holds'). Laid BY PROGRAM, IN A SANDBOX (cutbox-door.mjs). By AI agents, Wed Nov 11 2026. No macro, syntax, notation, axiom, sorry.
-/
import Derived.Test.YthkkhbdhminjfaaDoorRows
import GoSem.ClaimSeven
namespace Go.Proofs.YthkkhbdhminjfaaDoor
namespace Rows

/-- THE TIED CARD OF 'n010_10.FnPosIsRecoveredNeverFromNewPos'. -/
def fnPosIsRecoveredNeverFromNewPosCard : Claim7 := { stood := { row := fnPosIsRecoveredNeverFromNewPosRow, standIns := [], harness := (true, "99f02f011a9a77fb5b80cdefdbb8ed58f9b09be79f455b3ca88528783d6ece71"), looks := false }, kinds := [], alts := [], laidByText := true, laidKinds := [.data], laidTests := true, laidLooks := .later }
def FnPosIsRecoveredNeverFromNewPosCardSaid : Prop := Claim7.holds Tryd.pinned (.plain (OpenSpec.ofChange fnPosIsRecoveredNeverFromNewPosSpec)) fnPosIsRecoveredNeverFromNewPosCard

/-- THE TIED CARD OF 'n010_10.FnPosStringParsesBack'. -/
def fnPosStringParsesBackCard : Claim7 := { stood := { row := fnPosStringParsesBackRow, standIns := [], harness := (true, "99f02f011a9a77fb5b80cdefdbb8ed58f9b09be79f455b3ca88528783d6ece71"), looks := false }, kinds := [], alts := [], laidByText := true, laidKinds := [.data, .data, .data], laidTests := true, laidLooks := .later }
def FnPosStringParsesBackCardSaid : Prop := Claim7.holds Tryd.pinned (.plain (OpenSpec.ofChange fnPosStringParsesBackSpec)) fnPosStringParsesBackCard

/-- THE SECOND FORM's CARD OF 'n010_10.FnPosIsRecoveredNeverFromNewPos'. -/
def fnPosIsRecoveredNeverFromNewPosUptoCard : Claim7 := { stood := { row := fnPosIsRecoveredNeverFromNewPosUptoRow, standIns := [], harness := (true, "99f02f011a9a77fb5b80cdefdbb8ed58f9b09be79f455b3ca88528783d6ece71"), looks := false }, kinds := [], alts := [], laidByText := true, laidKinds := [.data], laidTests := true, laidLooks := .later }
def FnPosIsRecoveredNeverFromNewPosUptoCardSaid : Prop := Claim7.holds Tryd.pinned (.plain (OpenSpec.upto fnPosIsRecoveredNeverFromNewPosSpec)) fnPosIsRecoveredNeverFromNewPosUptoCard

/-- THE SECOND FORM's CARD OF 'n010_10.FnPosStringParsesBack'. -/
def fnPosStringParsesBackUptoCard : Claim7 := { stood := { row := fnPosStringParsesBackUptoRow, standIns := [], harness := (true, "99f02f011a9a77fb5b80cdefdbb8ed58f9b09be79f455b3ca88528783d6ece71"), looks := false }, kinds := [], alts := [], laidByText := true, laidKinds := [.data, .data, .data], laidTests := true, laidLooks := .later }
def FnPosStringParsesBackUptoCardSaid : Prop := Claim7.holds Tryd.pinned (.plain (OpenSpec.upto fnPosStringParsesBackSpec)) fnPosStringParsesBackUptoCard
end Rows
end Go.Proofs.YthkkhbdhminjfaaDoor
