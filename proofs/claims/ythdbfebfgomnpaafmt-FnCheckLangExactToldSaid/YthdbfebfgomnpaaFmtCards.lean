/-
  DERIVED. GIVEN WITH THE SEED: THE CARDS: each row of YthdbfebfgomnpaaFmtRows.lean that lists a variable, with what it lists TIED to the program's text (the seventh form; the later family's looks); each row that meets fmt, with fmt's text TOLD by the authors' own Lean function (tested against real Go, not proved from fmt's source: count such statements apart). THE CARD IS WHAT COUNTS. Prove the row's statement (the work); the ties are given (YthdbfebfgomnpaaFmtTie.lean); close each card by the builder's one call (the guide's Derived/Test/ToyasCard.lean, 'card_holds'). Laid BY PROGRAM, IN A SANDBOX (cutbox-door.mjs). By AI agents, Wed Nov 11 2026. No macro, syntax, notation, axiom, sorry.
-/
import Derived.Test.YthdbfebfgomnpaaFmtRows
import GoSem.ClaimSeven
namespace Go.Proofs.YthdbfebfgomnpaaFmt
namespace Rows

/-- THE TOLD CARD OF 'n010_112.FnCheckLangExact'. -/
def fnCheckLangExactCard : Claim7 := { stood := { row := fnCheckLangExactRow, standIns := [], harness := (true, "e64bbad7700ba67766bc43a17b3b9bdb7e8443f1a158d43fbd17a4950bafcc9b"), looks := true }, told := true, goes := false }
def FnCheckLangExactToldSaid : Prop := Claim7.holds Tryf.pinned (.plain (OpenSpec.ofChange fnCheckLangExactSpec)) fnCheckLangExactCard
/-- ITS FALSE NEIGHBOUR. Refute it at one input. -/
def FnCheckLangExactToldWrongFalsely : Prop := Claim7.holds Tryf.pinned (.plain (OpenSpec.ofChange fnCheckLangExactWrong)) fnCheckLangExactCard
end Rows
end Go.Proofs.YthdbfebfgomnpaaFmt
