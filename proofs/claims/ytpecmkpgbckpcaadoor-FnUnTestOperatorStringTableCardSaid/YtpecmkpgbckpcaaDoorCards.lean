/-
  DERIVED. GIVEN WITH THE SEED: THE CARDS: each row of YtpecmkpgbckpcaaDoorRows.lean that lists a variable, with what it lists TIED to the program's text (the seventh form; the later family's looks); each row that meets fmt, with fmt's text TOLD by the authors' own Lean function (tested against real Go, not proved from fmt's source: count such statements apart). THE CARD IS WHAT COUNTS. Prove the row's statement (the work); the ties are given (YtpecmkpgbckpcaaDoorTie.lean); close each card by the builder's one call (the guide's Derived/Test/ToyasCard.lean, 'card_holds'). Laid BY PROGRAM, IN A SANDBOX (cutbox-door.mjs). By AI agents, Wed Nov 11 2026. No macro, syntax, notation, axiom, sorry.
-/
import Derived.Test.YtpecmkpgbckpcaaDoorRows
import GoSem.ClaimSeven
namespace Go.Proofs.YtpecmkpgbckpcaaDoor
namespace Rows

/-- THE TIED CARD OF 'n010_125.FnBinAritOperatorStringTable'. -/
def fnBinAritOperatorStringTableCard : Claim7 := { stood := { row := fnBinAritOperatorStringTableRow, standIns := [], harness := (true, "de76d7de47ba4a015b70d9755bc7d1e5cce1a64cad2d247912ffcc1bca2f68f0"), looks := false }, kinds := [], alts := [], laidByText := true, laidKinds := [.data, .data, .data, .data], laidTests := true, laidLooks := .later }
def FnBinAritOperatorStringTableCardSaid : Prop := Claim7.holds Tryd.pinned (.plain (OpenSpec.ofChange fnBinAritOperatorStringTableSpec)) fnBinAritOperatorStringTableCard

/-- THE TIED CARD OF 'n010_125.FnBinTestOperatorStringTable'. -/
def fnBinTestOperatorStringTableCard : Claim7 := { stood := { row := fnBinTestOperatorStringTableRow, standIns := [], harness := (true, "de76d7de47ba4a015b70d9755bc7d1e5cce1a64cad2d247912ffcc1bca2f68f0"), looks := false }, kinds := [], alts := [], laidByText := true, laidKinds := [.data, .data, .data, .data], laidTests := true, laidLooks := .later }
def FnBinTestOperatorStringTableCardSaid : Prop := Claim7.holds Tryd.pinned (.plain (OpenSpec.ofChange fnBinTestOperatorStringTableSpec)) fnBinTestOperatorStringTableCard

/-- THE TIED CARD OF 'n010_125.FnUnAritOperatorStringTable'. -/
def fnUnAritOperatorStringTableCard : Claim7 := { stood := { row := fnUnAritOperatorStringTableRow, standIns := [], harness := (true, "de76d7de47ba4a015b70d9755bc7d1e5cce1a64cad2d247912ffcc1bca2f68f0"), looks := false }, kinds := [], alts := [], laidByText := true, laidKinds := [.data, .data, .data, .data], laidTests := true, laidLooks := .later }
def FnUnAritOperatorStringTableCardSaid : Prop := Claim7.holds Tryd.pinned (.plain (OpenSpec.ofChange fnUnAritOperatorStringTableSpec)) fnUnAritOperatorStringTableCard

/-- THE TIED CARD OF 'n010_125.FnUnTestOperatorStringTable'. -/
def fnUnTestOperatorStringTableCard : Claim7 := { stood := { row := fnUnTestOperatorStringTableRow, standIns := [], harness := (true, "de76d7de47ba4a015b70d9755bc7d1e5cce1a64cad2d247912ffcc1bca2f68f0"), looks := false }, kinds := [], alts := [], laidByText := true, laidKinds := [.data, .data, .data, .data], laidTests := true, laidLooks := .later }
def FnUnTestOperatorStringTableCardSaid : Prop := Claim7.holds Tryd.pinned (.plain (OpenSpec.ofChange fnUnTestOperatorStringTableSpec)) fnUnTestOperatorStringTableCard

/-- THE SECOND FORM's CARD OF 'n010_125.FnBinAritOperatorStringTable'. -/
def fnBinAritOperatorStringTableUptoCard : Claim7 := { stood := { row := fnBinAritOperatorStringTableUptoRow, standIns := [], harness := (true, "de76d7de47ba4a015b70d9755bc7d1e5cce1a64cad2d247912ffcc1bca2f68f0"), looks := false }, kinds := [], alts := [], laidByText := true, laidKinds := [.data, .data, .data, .data], laidTests := true, laidLooks := .later }
def FnBinAritOperatorStringTableUptoCardSaid : Prop := Claim7.holds Tryd.pinned (.plain (OpenSpec.upto fnBinAritOperatorStringTableSpec)) fnBinAritOperatorStringTableUptoCard

/-- THE SECOND FORM's CARD OF 'n010_125.FnBinTestOperatorStringTable'. -/
def fnBinTestOperatorStringTableUptoCard : Claim7 := { stood := { row := fnBinTestOperatorStringTableUptoRow, standIns := [], harness := (true, "de76d7de47ba4a015b70d9755bc7d1e5cce1a64cad2d247912ffcc1bca2f68f0"), looks := false }, kinds := [], alts := [], laidByText := true, laidKinds := [.data, .data, .data, .data], laidTests := true, laidLooks := .later }
def FnBinTestOperatorStringTableUptoCardSaid : Prop := Claim7.holds Tryd.pinned (.plain (OpenSpec.upto fnBinTestOperatorStringTableSpec)) fnBinTestOperatorStringTableUptoCard

/-- THE SECOND FORM's CARD OF 'n010_125.FnUnAritOperatorStringTable'. -/
def fnUnAritOperatorStringTableUptoCard : Claim7 := { stood := { row := fnUnAritOperatorStringTableUptoRow, standIns := [], harness := (true, "de76d7de47ba4a015b70d9755bc7d1e5cce1a64cad2d247912ffcc1bca2f68f0"), looks := false }, kinds := [], alts := [], laidByText := true, laidKinds := [.data, .data, .data, .data], laidTests := true, laidLooks := .later }
def FnUnAritOperatorStringTableUptoCardSaid : Prop := Claim7.holds Tryd.pinned (.plain (OpenSpec.upto fnUnAritOperatorStringTableSpec)) fnUnAritOperatorStringTableUptoCard

/-- THE SECOND FORM's CARD OF 'n010_125.FnUnTestOperatorStringTable'. -/
def fnUnTestOperatorStringTableUptoCard : Claim7 := { stood := { row := fnUnTestOperatorStringTableUptoRow, standIns := [], harness := (true, "de76d7de47ba4a015b70d9755bc7d1e5cce1a64cad2d247912ffcc1bca2f68f0"), looks := false }, kinds := [], alts := [], laidByText := true, laidKinds := [.data, .data, .data, .data], laidTests := true, laidLooks := .later }
def FnUnTestOperatorStringTableUptoCardSaid : Prop := Claim7.holds Tryd.pinned (.plain (OpenSpec.upto fnUnTestOperatorStringTableSpec)) fnUnTestOperatorStringTableUptoCard
end Rows
end Go.Proofs.YtpecmkpgbckpcaaDoor
